/- Printed by a program of this session (a turned copy of the printer of the kit): contracts of functions of the translation, each with the Lean function that it computes. Conditions: as each theorem states them. -/
import Derived.Test.YtlcgakpnpdkjjaaDoorPBzx0
import Derived.Test.YtlcgakpnpdkjjaaDoorPBzx1
import Derived.Test.YtlcgakpnpdkjjaaDoorPBzx3
namespace Go.Proofs.YtlcgakpnpdkjjaaDoor.PBz
open Go.RowKit Go.Proofs.YtlcgakpnpdkjjaaDoorW.PrintWords Go.Proofs.YtlcgakpnpdkjjaaDoorW.PrintLast Go.Proofs.YtlcgakpnpdkjjaaDoorW.PrintMore
attribute [local go_sem] max2_int min2_int max_two min_two max_three min_three max_four min_four   -- for this text's walks alone
set_option linter.unusedVariables false
set_option linter.unusedSimpArgs false

/-! ### spec_DocRight: function 18 -/
def spec_DocRight.f (a0_0 : Int) (a0_1 : ByteArray) (a0_2 : ByteArray) (a0_3 : Int) (a0_4 : Int) (a0_5 : Int) (l0_6 : List Int) (l0_7 : List (S34)) : Option (Bool) := (spec_docRight.f a0_0 a0_1 a0_2 a0_3 a0_4 a0_5 l0_6 l0_7 200).bind fun t113 => (some t113)
set_option maxHeartbeats 8000000 in
set_option maxRecDepth 100000 in
theorem spec_DocRight.calls (a0_0 : Int) (a0_1 : ByteArray) (a0_2 : ByteArray) (a0_3 : Int) (a0_4 : Int) (a0_5 : Int) (A0_6 : Option Addr) (c0_6 : Nat) (l0_6 : List Int) (A0_7 : Option Addr) (c0_7 : Nat) (l0_7 : List (S34)) (r : Bool) (w : World) (hr0_6 : Kd.C (Kd.int .u8) w A0_6 l0_6.length l0_6) (hc0_6 : l0_6.length ≤ c0_6) (hr0_7 : Kd.C k34 w A0_7 l0_7.length l0_7) (hc0_7 : l0_7.length ≤ c0_7) (h : spec_DocRight.f a0_0 a0_1 a0_2 a0_3 a0_4 a0_5 l0_6 l0_7 = some r) :
    Calls Tryd.prog 18 #[.agg #[.int .i64 a0_0, .string a0_1, .string a0_2, .int .i64 a0_3, .int .u64 a0_4, .int .u64 a0_5, .slice A0_6 l0_6.length c0_6, .slice A0_7 l0_7.length c0_7]] w fun e w' => e = .returned (.bool r) ∧ Below w.heap.size w w' := by
  have hu26 := Tryd.underlying26
  have HR0_6 := Aside0.mk hr0_6
  have HC0_6 := Aside0.mk hc0_6
  clear hr0_6 hc0_6
  have HR0_7 := Aside0.mk hr0_7
  have HC0_7 := Aside0.mk hc0_7
  clear hr0_7 hc0_7
  have HB := Aside0.mk (Below.refl w.heap.size w)
  have H : ((spec_docRight.f a0_0 a0_1 a0_2 a0_3 a0_4 a0_5 l0_6 l0_7 200).bind fun t113 => (some t113)) = some r := h
  clear h
  replace H := Option.bind_eq_some_iff.mp H
  obtain ⟨t113, A20, H⟩ := H
  replace H : (some t113) = some r := H
  have A2 := Aside0.mk A20
  clear A20
  as_aux_lemma =>
    obtain rfl := Option.some.inj H
    go_enter Tryd.func18, Tryd.ntmps18
    go_wp2_with (first | ((with_reducible refine gate_dst (N := 1) rfl ?_); refine box_event ?hg (N := 1) ?hd (cs := #[.int .i64 a0_0, .string a0_1, .string a0_2, .int .i64 a0_3, .int .u64 a0_4, .int .u64 a0_5, .slice A0_6 l0_6.length c0_6, .slice A0_7 l0_7.length c0_7]) (t := 26) ?hr ?_; (case hd => rfl); (case hg => rfl); (case hr => first | (go_simp; done) | (go_simp; rfl)); intro gb112 hg w3 hbox hb; have n0_ := Aside0.mk (below_step HW.zb hb); have n1_ := Aside0.mk (hbox); have n3_ := Aside0.mk ((by rw [hg]; exact (below_size HW.zb) : w.heap.size ≤ gb112)); clear HB; have HB := n0_; have BK112 := n1_; have GE112 := n3_; clear n0_ n1_ n3_; clear hb hbox hg; have hcz4_0 := HW.zc BK112.out 0 (.int .i64 a0_0); have hcz4_1 := HW.zc BK112.out 1 (.string a0_1); have hcz4_2 := HW.zc BK112.out 2 (.string a0_2); have hcz4_3 := HW.zc BK112.out 3 (.int .i64 a0_3); have hcz4_4 := HW.zc BK112.out 4 (.int .u64 a0_4); have hcz4_5 := HW.zc BK112.out 5 (.int .u64 a0_5); have hcz4_6 := HW.zc BK112.out 6 (.slice A0_6 l0_6.length c0_6); have hcz4_7 := HW.zc BK112.out 7 (.slice A0_7 l0_7.length c0_7)) | ((with_reducible refine gate_callee (f := 29) rfl ?_); refine HW.gz (some 4) rfl rfl Tryd.func29 (by kernel_rfl) rfl #[.agg #[.int .i64 a0_0, .string a0_1, .string a0_2, .int .i64 a0_3, .int .u64 a0_4, .int .u64 a0_5, .slice A0_6 l0_6.length c0_6, .slice A0_7 l0_7.length c0_7], .int .i64 200] rfl ?_; (with_reducible refine (spec_docRight.calls a0_0 a0_1 a0_2 a0_3 a0_4 a0_5 _ _ l0_6 _ _ l0_7 200 t113 _ ?side1 ?side2 ?side3 ?side4 A2.out).mono ?_); (case side1 => repeat (first | exact (Kd.C_below HR0_6.out HB.out) | (with_reducible refine Kd.C_alloc ?_ _) | (with_reducible refine Kd.C_drewN ?_ _) | (with_reducible refine Kd.C_drew ?_))); (case side2 => exact HC0_6.out); (case side3 => repeat (first | exact (Kd.C_below HR0_7.out HB.out) | (with_reducible refine Kd.C_alloc ?_ _) | (with_reducible refine Kd.C_drewN ?_ _) | (with_reducible refine Kd.C_drew ?_))); (case side4 => exact HC0_7.out); rintro e w5 ⟨rfl, hb⟩; refine ⟨_, rfl, ?_⟩; have n1_ := Aside0.mk (below_step HW.zb hb); clear HB; have HB := n1_; clear n1_; (try clear hb); (try clear hb2); (try clear hk); (try clear hi)))
    go_ret
    exact ⟨by first | rfl | (simp [errW_none, errW_some] <;> rfl) | (simp [*, errW_none, errW_some] <;> rfl), HW.zb⟩

/-! ### laws_docBytes: function 19 -/
mutual
def laws_docBytes.l0 : Nat → Int → Int → Int → ByteArray → ByteArray → Int → Int → Int → List Int → List (S34) → Option (Int)
  | 0, _, _, _, _, _, _, _, _, _, _ => none
  | k + 1, x3, x4, x115000, x115001, x115002, x115003, x115004, x115005, x115006, x115007 => if x4 < (x115007.length : Int) then (if 0 ≤ x4 then ((laws_docBytes.f k ((rd_T34 x115007 x4).f1.f0) ((rd_T34 x115007 x4).f1.f1) ((rd_T34 x115007 x4).f1.f2) ((rd_T34 x115007 x4).f1.f3) ((rd_T34 x115007 x4).f1.f4) ((rd_T34 x115007 x4).f1.f5) ((rd_T34 x115007 x4).f1.f6) ((rd_T34 x115007 x4).f1.f7)).bind fun t117 => (laws_docBytes.l0 k (wrap64 ((wrap64 (x3 + (((rd_T34 x115007 x4).f0).size : Int))) + t117)) (wrap64 (x4 + 1)) x115000 x115001 x115002 x115003 x115004 x115005 x115006 x115007)) else (none)) else (some x3)
def laws_docBytes.f : Nat → Int → ByteArray → ByteArray → Int → Int → Int → List Int → List (S34) → Option (Int)
  | 0, _, _, _, _, _, _, _, _ => none
  | k + 1, a0_0, a0_1, a0_2, a0_3, a0_4, a0_5, l0_6, l0_7 => laws_docBytes.l0 k (wrap64 ((wrap64 ((a0_1.size : Int) + (a0_2.size : Int))) + (l0_6.length : Int))) 0 a0_0 a0_1 a0_2 a0_3 a0_4 a0_5 l0_6 l0_7
end
theorem laws_docBytes.mono_l : ∀ k, (∀ y0 y1 y2 y3 y4 y5 y6 y7, LeO (laws_docBytes.f k y0 y1 y2 y3 y4 y5 y6 y7) (laws_docBytes.f (k + 1) y0 y1 y2 y3 y4 y5 y6 y7)) ∧ (∀ y0 y1 y2 y3 y4 y5 y6 y7 y8 y9, LeO (laws_docBytes.l0 k y0 y1 y2 y3 y4 y5 y6 y7 y8 y9) (laws_docBytes.l0 (k + 1) y0 y1 y2 y3 y4 y5 y6 y7 y8 y9))
  | 0 => ⟨fun _ _ _ _ _ _ _ _ r h => by simp [laws_docBytes.f] at h, fun _ _ _ _ _ _ _ _ _ _ r h => by simp [laws_docBytes.l0] at h⟩
  | k + 1 => by
    obtain ⟨ih0, ih1⟩ := laws_docBytes.mono_l k
    refine ⟨?_, ?_⟩
    · intro y0 y1 y2 y3 y4 y5 y6 y7
      unfold laws_docBytes.f
      repeat' first
      | (with_reducible exact ih0 _ _ _ _ _ _ _ _)
      | (with_reducible exact ih1 _ _ _ _ _ _ _ _ _ _)
      | (with_reducible exact LeO.refl _)
      | (with_reducible exact LeO.none _)
      | (with_reducible refine LeO.ite ?_ ?_)
      | (with_reducible refine LeO.bind ?_ (fun _ => ?_))
      | exact ih0 _ _ _ _ _ _ _ _
      | exact ih1 _ _ _ _ _ _ _ _ _ _
      | exact LeO.none _
      | refine LeO.ite ?_ ?_
      | refine LeO.bind ?_ (fun _ => ?_)
    · intro y0 y1 y2 y3 y4 y5 y6 y7 y8 y9
      unfold laws_docBytes.l0
      repeat' first
      | (with_reducible exact ih0 _ _ _ _ _ _ _ _)
      | (with_reducible exact ih1 _ _ _ _ _ _ _ _ _ _)
      | (with_reducible exact LeO.refl _)
      | (with_reducible exact LeO.none _)
      | (with_reducible refine LeO.ite ?_ ?_)
      | (with_reducible refine LeO.bind ?_ (fun _ => ?_))
      | exact ih0 _ _ _ _ _ _ _ _
      | exact ih1 _ _ _ _ _ _ _ _ _ _
      | exact LeO.none _
      | refine LeO.ite ?_ ?_
      | refine LeO.bind ?_ (fun _ => ?_)
theorem laws_docBytes.mono : ∀ a0 a1 a2 a3 a4 a5 a6 a7 k, LeO (laws_docBytes.f k a0 a1 a2 a3 a4 a5 a6 a7) (laws_docBytes.f (k + 1) a0 a1 a2 a3 a4 a5 a6 a7) := by
  intro a0 a1 a2 a3 a4 a5 a6 a7 k
  obtain ⟨ih0, ih1⟩ := laws_docBytes.mono_l k
  exact ih0 a0 a1 a2 a3 a4 a5 a6 a7
def laws_docBytes.T5 : Bool × List (List Nat × List Nat) := (true, [([], []), ([], []), ([1], [1]), ([], []), ([2, 3], [2, 3]), ([4], [4]), ([5], [5]), ([6], [6]), ([0, 7], [0, 7]), ([], []), ([9], [9]), ([], []), ([10, 11], [10, 11]), ([12], [12]), ([13], [13]), ([14], [14]), ([8, 15], [8, 15]), ([16, 15, 0, 1, 2, 3, 4, 5, 6, 7, 8, 9, 10, 11, 12, 13, 14, 15, 16], [0, 16])])
def laws_docBytes.B5 : List Nat := [0, 0, 2, 0, 14, 30, 62, 126, 255, 0, 512, 0, 3584, 7680, 15872, 32256, 65535, 131071]
theorem laws_docBytes.tab5 : rtab .any (opsOf Tryd.f19 5) = laws_docBytes.T5 := by kernel_rfl
theorem laws_docBytes.bits5 : waitsOk laws_docBytes.T5.2 laws_docBytes.B5 = true := by kernel_rfl
set_option maxHeartbeats 8000000 in
set_option maxRecDepth 100000 in
theorem laws_docBytes.calls (k : Nat) : ∀ (a0_0 : Int) (a0_1 : ByteArray) (a0_2 : ByteArray) (a0_3 : Int) (a0_4 : Int) (a0_5 : Int) (A0_6 : Option Addr) (c0_6 : Nat) (l0_6 : List Int) (A0_7 : Option Addr) (c0_7 : Nat) (l0_7 : List (S34)) (r : Int) (w : World) (hr0_6 : Kd.C (Kd.int .u8) w A0_6 l0_6.length l0_6) (hc0_6 : l0_6.length ≤ c0_6) (hr0_7 : Kd.C k34 w A0_7 l0_7.length l0_7) (hc0_7 : l0_7.length ≤ c0_7) (h : laws_docBytes.f k a0_0 a0_1 a0_2 a0_3 a0_4 a0_5 l0_6 l0_7 = some r),
    Calls Tryd.prog 19 #[.agg #[.int .i64 a0_0, .string a0_1, .string a0_2, .int .i64 a0_3, .int .u64 a0_4, .int .u64 a0_5, .slice A0_6 l0_6.length c0_6, .slice A0_7 l0_7.length c0_7]] w fun e w' => e = .returned (.int .i64 r) ∧ Below w.heap.size w w' := by
  induction k using Nat.strongRecOn with
  | _ k ih =>
  intro a0_0 a0_1 a0_2 a0_3 a0_4 a0_5 A0_6 c0_6 l0_6 A0_7 c0_7 l0_7 r w hr0_6 hc0_6 hr0_7 hc0_7 h
  cases k with
  | zero => exact absurd h (by simp [laws_docBytes.f])
  | succ k =>
  simp only [laws_docBytes.f] at h
  have hu26 := Tryd.underlying26
  have HR0_6 := Aside0.mk hr0_6
  have HC0_6 := Aside0.mk hc0_6
  clear hr0_6 hc0_6
  have HR0_7 := Aside0.mk hr0_7
  have HC0_7 := Aside0.mk hc0_7
  clear hr0_7 hc0_7
  have HB := Aside0.mk (Below.refl w.heap.size w)
  have H : (laws_docBytes.l0 k (wrap64 ((wrap64 ((a0_1.size : Int) + (a0_2.size : Int))) + (l0_6.length : Int))) 0 a0_0 a0_1 a0_2 a0_3 a0_4 a0_5 l0_6 l0_7) = some r := h
  clear h
  have H' := Aside0.mk H
  clear H
  go_enter Tryd.func19, Tryd.ntmps19
  go_wp2_with (first | ((with_reducible refine gate_dst (N := 1) rfl ?_); refine box_event ?hg (N := 1) ?hd (cs := #[.int .i64 a0_0, .string a0_1, .string a0_2, .int .i64 a0_3, .int .u64 a0_4, .int .u64 a0_5, .slice A0_6 l0_6.length c0_6, .slice A0_7 l0_7.length c0_7]) (t := 26) ?hr ?_; (case hd => rfl); (case hg => rfl); (case hr => first | (go_simp; done) | (go_simp; rfl)); intro gb114 hg w2 hbox hb; have n0_ := Aside0.mk (below_step HW.zb hb); have n1_ := Aside0.mk (hbox); have n3_ := Aside0.mk ((by rw [hg]; exact (below_size HW.zb) : w.heap.size ≤ gb114)); clear HB; have HB := n0_; have BK114 := n1_; have GE114 := n3_; clear n0_ n1_ n3_; clear hb hbox hg; have hcz3_0 := HW.zc BK114.out 0 (.int .i64 a0_0); have hcz3_1 := HW.zc BK114.out 1 (.string a0_1); have hcz3_2 := HW.zc BK114.out 2 (.string a0_2); have hcz3_3 := HW.zc BK114.out 3 (.int .i64 a0_3); have hcz3_4 := HW.zc BK114.out 4 (.int .u64 a0_4); have hcz3_5 := HW.zc BK114.out 5 (.int .u64 a0_5); have hcz3_6 := HW.zc BK114.out 6 (.slice A0_6 l0_6.length c0_6); have hcz3_7 := HW.zc BK114.out 7 (.slice A0_7 l0_7.length c0_7)))
  go_loopg [3, 4] k (fun kq v3 v4 w' => ∃ (x3_1 : Int) (x4_1 : Int), v3 = .int .i64 x3_1 ∧ v4 = .int .i64 x4_1 ∧ Aside0 (laws_docBytes.l0 kq x3_1 x4_1 a0_0 a0_1 a0_2 a0_3 a0_4 a0_5 l0_6 l0_7 = some r) ∧ Aside0 (kq ≤ k) ∧ Aside0 (w'.heap[gb114]? = some (.cells #[.int .i64 a0_0, .string a0_1, .string a0_2, .int .i64 a0_3, .int .u64 a0_4, .int .u64 a0_5, (.slice A0_6 l0_6.length c0_6), (.slice A0_7 l0_7.length c0_7)] 26 (0, 0))) ∧ Aside0 (Below w.heap.size w w'))
  case atStart => exact ⟨(wrap64 ((wrap64 ((a0_1.size : Int) + (a0_2.size : Int))) + (l0_6.length : Int))), (0), (by first | rfl | (simp; done) | (simp [*]; done)), (by first | rfl | (simp; done) | (simp [*]; done)), H', ⟨Nat.le_refl _⟩, ⟨by (with_reducible repeat (first | refine blk_drewN ?_ _ | refine blk_drew ?_ | refine blk_alloc ?_ _)); exact BK114.out⟩, ⟨HW.zb⟩⟩
  case round =>
    clear H'
    try clear c1
    try clear p2
    try clear hcz3_0
    try clear hcz3_1
    try clear hcz3_2
    try clear hcz3_3
    try clear hcz3_4
    try clear hcz3_5
    try clear hcz3_6
    try clear hcz3_7
    obtain ⟨x3_1, x4_1, rfl, rfl, HA, HK1, BK114, HB⟩ := hrel
    cases gk with
    | zero => exact absurd HA.out (by simp [laws_docBytes.l0])
    | succ k1 =>
      have H := HA.out
      clear HA
      simp only [laws_docBytes.l0] at H
      by_cases c4 : x4_1 < (l0_7.length : Int)
      rotate_left
      · rw [if_neg c4] at H
        have c4b0 : decide (x4_1 < (l0_7.length : Int)) = false := decide_eq_false c4
        clear c4
        as_aux_lemma =>
          obtain rfl := Option.some.inj H
          have hcz10_0 := HW.zc BK114.out 0 (.int .i64 a0_0)
          have hcz10_1 := HW.zc BK114.out 1 (.string a0_1)
          have hcz10_2 := HW.zc BK114.out 2 (.string a0_2)
          have hcz10_3 := HW.zc BK114.out 3 (.int .i64 a0_3)
          have hcz10_4 := HW.zc BK114.out 4 (.int .u64 a0_4)
          have hcz10_5 := HW.zc BK114.out 5 (.int .u64 a0_5)
          have hcz10_6 := HW.zc BK114.out 6 (.slice A0_6 l0_6.length c0_6)
          have hcz10_7 := HW.zc BK114.out 7 (.slice A0_7 l0_7.length c0_7)
          go_wp2
          go_ret
          exact ⟨by first | rfl | (simp [errW_none, errW_some] <;> rfl) | (simp [*, errW_none, errW_some] <;> rfl), HW.zb⟩
      rw [if_pos c4] at H
      have c4b0 : decide (x4_1 < (l0_7.length : Int)) = true := decide_eq_true c4
      clear c4
      by_cases c5 : 0 ≤ x4_1
      rotate_left
      · rw [if_neg c5] at H
        exact absurd H (by simp)
      rw [if_pos c5] at H
      have c5b0 : decide (0 ≤ x4_1) = true := decide_eq_true c5
      clear c5
      replace H := Option.bind_eq_some_iff.mp H
      obtain ⟨t117, A60, H⟩ := H
      replace H : (laws_docBytes.l0 k1 (wrap64 ((wrap64 (x3_1 + (((rd_T34 l0_7 x4_1).f0).size : Int))) + t117)) (wrap64 (x4_1 + 1)) a0_0 a0_1 a0_2 a0_3 a0_4 a0_5 l0_6 l0_7) = some r := H
      have A6 := Aside0.mk A60
      clear A60
      as_aux_lemma =>
        have H' := Aside0.mk H
        clear H
        have hcz7_0 := HW.zc BK114.out 0 (.int .i64 a0_0)
        have hcz7_1 := HW.zc BK114.out 1 (.string a0_1)
        have hcz7_2 := HW.zc BK114.out 2 (.string a0_2)
        have hcz7_3 := HW.zc BK114.out 3 (.int .i64 a0_3)
        have hcz7_4 := HW.zc BK114.out 4 (.int .u64 a0_4)
        have hcz7_5 := HW.zc BK114.out 5 (.int .u64 a0_5)
        have hcz7_6 := HW.zc BK114.out 6 (.slice A0_6 l0_6.length c0_6)
        have hcz7_7 := HW.zc BK114.out 7 (.slice A0_7 l0_7.length c0_7)
        try go_wp2
        have n0_ := Aside0.mk (blk_drew BK114.out)
        have n1_ := Aside0.mk (below_drew1 HB.out)
        clear BK114
        clear HB
        have BK114 := n0_
        have HB := n1_
        clear n0_ n1_
        have p115 : 0 ≤ (x4_1 : Int) := of_decide_eq_true (by first | (with_reducible assumption) | assumption)
        have q115 : x4_1 < (l0_7.length : Int) := of_decide_eq_true (by first | (with_reducible assumption) | assumption)
        obtain ⟨ad115, A115_7, c115_7, A115_8, c115_8, e115, hx115_0, hx115_1, hx115_2, hx115_3, hx115_4, hx115_5, hx115_6, hx115_7, hx115_8, hl115_7, hi115_7, hl115_8, hi115_8⟩ := at_T34 HR0_7.out x4_1 p115 q115
        have hw115_8 := hx115_8
        have hw115_7 := hx115_7
        have hw115_6 := hx115_6
        have hw115_5 := hx115_5
        have hw115_4 := hx115_4
        have hw115_3 := hx115_3
        have hw115_2 := hx115_2
        have hw115_1 := hx115_1
        have hw115_0 := hx115_0
        cases e115
        replace hx115_0 := (HB.out.cell (World.block_lt_of_cell? w _ hx115_0)).trans hx115_0
        replace hx115_1 := (HB.out.cell (World.block_lt_of_cell? w _ hx115_1)).trans hx115_1
        replace hx115_2 := (HB.out.cell (World.block_lt_of_cell? w _ hx115_2)).trans hx115_2
        replace hx115_3 := (HB.out.cell (World.block_lt_of_cell? w _ hx115_3)).trans hx115_3
        replace hx115_4 := (HB.out.cell (World.block_lt_of_cell? w _ hx115_4)).trans hx115_4
        replace hx115_5 := (HB.out.cell (World.block_lt_of_cell? w _ hx115_5)).trans hx115_5
        replace hx115_6 := (HB.out.cell (World.block_lt_of_cell? w _ hx115_6)).trans hx115_6
        replace hx115_7 := (HB.out.cell (World.block_lt_of_cell? w _ hx115_7)).trans hx115_7
        replace hx115_8 := (HB.out.cell (World.block_lt_of_cell? w _ hx115_8)).trans hx115_8
        have HR115_7 := Aside0.mk hi115_7
        have HC115_7 := Aside0.mk hl115_7
        clear hi115_7 hl115_7
        have HR115_8 := Aside0.mk hi115_8
        have HC115_8 := Aside0.mk hl115_8
        clear hi115_8 hl115_8
        replace p115 := eq_true p115
        replace q115 := eq_true q115
        have p116 : 0 ≤ (x4_1 : Int) := of_decide_eq_true (by first | (with_reducible assumption) | assumption)
        have q116 : x4_1 < (l0_7.length : Int) := of_decide_eq_true (by first | (with_reducible assumption) | assumption)
        obtain ⟨ad116, A116_7, c116_7, A116_8, c116_8, e116, hx116_0, hx116_1, hx116_2, hx116_3, hx116_4, hx116_5, hx116_6, hx116_7, hx116_8, hl116_7, hi116_7, hl116_8, hi116_8⟩ := at_T34 HR0_7.out x4_1 p116 q116
        have hw116_8 := hx116_8
        have hw116_7 := hx116_7
        have hw116_6 := hx116_6
        have hw116_5 := hx116_5
        have hw116_4 := hx116_4
        have hw116_3 := hx116_3
        have hw116_2 := hx116_2
        have hw116_1 := hx116_1
        have hw116_0 := hx116_0
        obtain rfl : ad115 = ad116 := (by injection e116)
        replace hx116_0 := (HB.out.cell (World.block_lt_of_cell? w _ hx116_0)).trans hx116_0
        replace hx116_1 := (HB.out.cell (World.block_lt_of_cell? w _ hx116_1)).trans hx116_1
        replace hx116_2 := (HB.out.cell (World.block_lt_of_cell? w _ hx116_2)).trans hx116_2
        replace hx116_3 := (HB.out.cell (World.block_lt_of_cell? w _ hx116_3)).trans hx116_3
        replace hx116_4 := (HB.out.cell (World.block_lt_of_cell? w _ hx116_4)).trans hx116_4
        replace hx116_5 := (HB.out.cell (World.block_lt_of_cell? w _ hx116_5)).trans hx116_5
        replace hx116_6 := (HB.out.cell (World.block_lt_of_cell? w _ hx116_6)).trans hx116_6
        replace hx116_7 := (HB.out.cell (World.block_lt_of_cell? w _ hx116_7)).trans hx116_7
        replace hx116_8 := (HB.out.cell (World.block_lt_of_cell? w _ hx116_8)).trans hx116_8
        have HR116_7 := Aside0.mk hi116_7
        have HC116_7 := Aside0.mk hl116_7
        clear hi116_7 hl116_7
        have HR116_8 := Aside0.mk hi116_8
        have HC116_8 := Aside0.mk hl116_8
        clear hi116_8 hl116_8
        replace p116 := eq_true p116
        replace q116 := eq_true q116
        have ea_ := Option.some.inj (hx115_7.symm.trans hx116_7)
        injection ea_ with ea_ en_ ec_
        subst ea_
        subst ec_
        clear en_
        have ea_ := Option.some.inj (hx115_8.symm.trans hx116_8)
        injection ea_ with ea_ en_ ec_
        subst ea_
        subst ec_
        clear en_
        refine start_ (n := 18) (S := fun w' => w'.cell? ⟨gb114, 0, none⟩ = some (.int .i64 a0_0) ∧ w'.cell? ⟨gb114, 1, none⟩ = some (.string a0_1) ∧ w'.cell? ⟨gb114, 2, none⟩ = some (.string a0_2) ∧ w'.cell? ⟨gb114, 3, none⟩ = some (.int .i64 a0_3) ∧ w'.cell? ⟨gb114, 4, none⟩ = some (.int .u64 a0_4) ∧ w'.cell? ⟨gb114, 5, none⟩ = some (.int .u64 a0_5) ∧ w'.cell? ⟨gb114, 6, none⟩ = some (.slice A0_6 l0_6.length c0_6) ∧ w'.cell? ⟨gb114, 7, none⟩ = some (.slice (some ad115) l0_7.length c0_7) ∧ w'.cell? (ad115.add ((x4_1).toNat * 9)) = some (.string ((rd_T34 l0_7 x4_1).f0)) ∧ w'.cell? ⟨(ad115.add ((x4_1).toNat * 9)).block, (ad115.add ((x4_1).toNat * 9)).off + 1, none⟩ = some (.int .i64 ((rd_T34 l0_7 x4_1).f1.f0)) ∧ w'.cell? ⟨(ad115.add ((x4_1).toNat * 9)).block, (ad115.add ((x4_1).toNat * 9)).off + 2, none⟩ = some (.string ((rd_T34 l0_7 x4_1).f1.f1)) ∧ w'.cell? ⟨(ad115.add ((x4_1).toNat * 9)).block, (ad115.add ((x4_1).toNat * 9)).off + 3, none⟩ = some (.string ((rd_T34 l0_7 x4_1).f1.f2)) ∧ w'.cell? ⟨(ad115.add ((x4_1).toNat * 9)).block, (ad115.add ((x4_1).toNat * 9)).off + 4, none⟩ = some (.int .i64 ((rd_T34 l0_7 x4_1).f1.f3)) ∧ w'.cell? ⟨(ad115.add ((x4_1).toNat * 9)).block, (ad115.add ((x4_1).toNat * 9)).off + 5, none⟩ = some (.int .u64 ((rd_T34 l0_7 x4_1).f1.f4)) ∧ w'.cell? ⟨(ad115.add ((x4_1).toNat * 9)).block, (ad115.add ((x4_1).toNat * 9)).off + 6, none⟩ = some (.int .u64 ((rd_T34 l0_7 x4_1).f1.f5)) ∧ w'.cell? ⟨(ad115.add ((x4_1).toNat * 9)).block, (ad115.add ((x4_1).toNat * 9)).off + 7, none⟩ = some (.slice A115_7 ((rd_T34 l0_7 x4_1).f1.f6).length c115_7) ∧ w'.cell? ⟨(ad115.add ((x4_1).toNat * 9)).block, (ad115.add ((x4_1).toNat * 9)).off + 8, none⟩ = some (.slice A115_8 ((rd_T34 l0_7 x4_1).f1.f7).length c115_8) ∧ w'.cell? (ad115.add ((x4_1).toNat * 9)) = some (.string ((rd_T34 l0_7 x4_1).f0)) ∧ w'.cell? ⟨(ad115.add ((x4_1).toNat * 9)).block, (ad115.add ((x4_1).toNat * 9)).off + 1, none⟩ = some (.int .i64 ((rd_T34 l0_7 x4_1).f1.f0)) ∧ w'.cell? ⟨(ad115.add ((x4_1).toNat * 9)).block, (ad115.add ((x4_1).toNat * 9)).off + 2, none⟩ = some (.string ((rd_T34 l0_7 x4_1).f1.f1)) ∧ w'.cell? ⟨(ad115.add ((x4_1).toNat * 9)).block, (ad115.add ((x4_1).toNat * 9)).off + 3, none⟩ = some (.string ((rd_T34 l0_7 x4_1).f1.f2)) ∧ w'.cell? ⟨(ad115.add ((x4_1).toNat * 9)).block, (ad115.add ((x4_1).toNat * 9)).off + 4, none⟩ = some (.int .i64 ((rd_T34 l0_7 x4_1).f1.f3)) ∧ w'.cell? ⟨(ad115.add ((x4_1).toNat * 9)).block, (ad115.add ((x4_1).toNat * 9)).off + 5, none⟩ = some (.int .u64 ((rd_T34 l0_7 x4_1).f1.f4)) ∧ w'.cell? ⟨(ad115.add ((x4_1).toNat * 9)).block, (ad115.add ((x4_1).toNat * 9)).off + 6, none⟩ = some (.int .u64 ((rd_T34 l0_7 x4_1).f1.f5)) ∧ w'.cell? ⟨(ad115.add ((x4_1).toNat * 9)).block, (ad115.add ((x4_1).toNat * 9)).off + 7, none⟩ = some (.slice A115_7 ((rd_T34 l0_7 x4_1).f1.f6).length c115_7) ∧ w'.cell? ⟨(ad115.add ((x4_1).toNat * 9)).block, (ad115.add ((x4_1).toNat * 9)).off + 8, none⟩ = some (.slice A115_8 ((rd_T34 l0_7 x4_1).f1.f7).length c115_8)) (ds := []) #[false, false, false, false, false, false, false, false, false, false, false, false, false, false, false, false, false, false] (by kernel_rfl) rfl rfl ⟨(blk_cell BK114.out 0).trans rfl, (blk_cell BK114.out 1).trans rfl, (blk_cell BK114.out 2).trans rfl, (blk_cell BK114.out 3).trans rfl, (blk_cell BK114.out 4).trans rfl, (blk_cell BK114.out 5).trans rfl, (blk_cell BK114.out 6).trans rfl, (blk_cell BK114.out 7).trans rfl, ((HB.out.cell (World.block_lt_of_cell? w _ hw115_0)).trans hw115_0), ((HB.out.cell (World.block_lt_of_cell? w _ hw115_1)).trans hw115_1), ((HB.out.cell (World.block_lt_of_cell? w _ hw115_2)).trans hw115_2), ((HB.out.cell (World.block_lt_of_cell? w _ hw115_3)).trans hw115_3), ((HB.out.cell (World.block_lt_of_cell? w _ hw115_4)).trans hw115_4), ((HB.out.cell (World.block_lt_of_cell? w _ hw115_5)).trans hw115_5), ((HB.out.cell (World.block_lt_of_cell? w _ hw115_6)).trans hw115_6), ((HB.out.cell (World.block_lt_of_cell? w _ hw115_7)).trans hw115_7), ((HB.out.cell (World.block_lt_of_cell? w _ hw115_8)).trans hw115_8), ((HB.out.cell (World.block_lt_of_cell? w _ hw116_0)).trans hw116_0), ((HB.out.cell (World.block_lt_of_cell? w _ hw116_1)).trans hw116_1), ((HB.out.cell (World.block_lt_of_cell? w _ hw116_2)).trans hw116_2), ((HB.out.cell (World.block_lt_of_cell? w _ hw116_3)).trans hw116_3), ((HB.out.cell (World.block_lt_of_cell? w _ hw116_4)).trans hw116_4), ((HB.out.cell (World.block_lt_of_cell? w _ hw116_5)).trans hw116_5), ((HB.out.cell (World.block_lt_of_cell? w _ hw116_6)).trans hw116_6), ((HB.out.cell (World.block_lt_of_cell? w _ hw116_7)).trans hw116_7), ((HB.out.cell (World.block_lt_of_cell? w _ hw116_8)).trans hw116_8)⟩ (fun hHeld => ?_); refine with_tabW laws_docBytes.tab5 laws_docBytes.bits5 (fun HT_ HW_ => ?_)
        generalize wr.drew = w8 at BK114 HB HR115_7 HR115_8 HR116_7 HR116_8 hx115_0 hx115_1 hx115_2 hx115_3 hx115_4 hx115_5 hx115_6 hx115_7 hx115_8 hx116_0 hx116_1 hx116_2 hx116_3 hx116_4 hx116_5 hx116_6 hx116_7 hx116_8 hHeld ⊢
        refine HW.pz (i := 0) (N := some 23) #[true, false, false, false, false, false, false, false, false, false, false, false, false, false, false, false, false, false] ?_ (hc := any_of HT_.out (by kernel_rfl))
        refine HW.pz (i := 1) (N := some 24) #[true, true, false, false, false, false, false, false, false, false, false, false, false, false, false, false, false, false] ?_ (hc := any_of HT_.out (by kernel_rfl))
        refine HW.pz (i := 3) (N := some 26) #[true, true, false, true, false, false, false, false, false, false, false, false, false, false, false, false, false, false] ?_ (hc := any_of HT_.out (by kernel_rfl))
        refine HW.pz (i := 9) (N := some 32) #[true, true, false, true, false, false, false, false, false, true, false, false, false, false, false, false, false, false] ?_ (hc := any_of HT_.out (by kernel_rfl))
        refine HW.pz (i := 11) (N := some 34) #[true, true, false, true, false, false, false, false, false, true, false, true, false, false, false, false, false, false] ?_ (hc := any_of HT_.out (by kernel_rfl))
        refine take_ (i := 2) (N := some 25) (v := ?_) (a' := ?_) #[true, true, true, true, false, false, false, false, false, true, false, true, false, false, false, false, false, false] rfl rfl (take_ofW HT_.out HW_.out (by kernel_rfl)) (fun _ _ _ h => h) (Or.inl ⟨by rfl, ?_⟩) hHeld ?_ ?_
        rotate_left
        · rintro w' ⟨s0, s1, s2, s3, s4, s5, s6, s7, s8, s9, s10, s11, s12, s13, s14, s15, s16, s17, s18, s19, s20, s21, s22, s23, s24, s25⟩
          go_simp
          with_reducible rfl
        rotate_left
        · simp only [Act.put, List.setIfInBounds_toArray, List.set_cons_zero, List.set_cons_succ, i64_w, i32_w]
          rfl
        refine HW.pz (i := 4) (N := some 27) #[true, true, true, true, true, false, false, false, false, true, false, true, false, false, false, false, false, false] ?_ (hc := any_of HT_.out (by kernel_rfl))
        refine HW.pz (i := 5) (N := some 28) #[true, true, true, true, true, true, false, false, false, true, false, true, false, false, false, false, false, false] ?_ (hc := any_of HT_.out (by kernel_rfl))
        refine take_ (i := 6) (N := some 29) (v := ?_) (a' := ?_) #[true, true, true, true, true, true, true, false, false, true, false, true, false, false, false, false, false, false] rfl rfl (take_ofW HT_.out HW_.out (by kernel_rfl)) (fun _ _ _ h => h) (Or.inl ⟨by rfl, ?_⟩) hHeld ?_ ?_
        rotate_left
        · rintro w' ⟨s0, s1, s2, s3, s4, s5, s6, s7, s8, s9, s10, s11, s12, s13, s14, s15, s16, s17, s18, s19, s20, s21, s22, s23, s24, s25⟩
          go_simp
          with_reducible rfl
        rotate_left
        · simp only [Act.put, List.setIfInBounds_toArray, List.set_cons_zero, List.set_cons_succ, i64_w, i32_w]
          rfl
        refine HW.pz (i := 7) (N := some 30) #[true, true, true, true, true, true, true, true, false, true, false, true, false, false, false, false, false, false] ?_ (hc := any_of HT_.out (by kernel_rfl))
        refine HW.pz (i := 8) (N := some 31) #[true, true, true, true, true, true, true, true, true, true, false, true, false, false, false, false, false, false] ?_ (hc := any_of HT_.out (by kernel_rfl))
        refine take_ (i := 10) (N := some 33) (v := ?_) (a' := ?_) #[true, true, true, true, true, true, true, true, true, true, true, true, false, false, false, false, false, false] rfl rfl (take_ofW HT_.out HW_.out (by kernel_rfl)) (fun _ _ _ h => h) (Or.inl ⟨by rfl, ?_⟩) hHeld ?_ ?_
        rotate_left
        · rintro w' ⟨s0, s1, s2, s3, s4, s5, s6, s7, s8, s9, s10, s11, s12, s13, s14, s15, s16, s17, s18, s19, s20, s21, s22, s23, s24, s25⟩
          go_simp
          with_reducible rfl
        rotate_left
        · simp only [Act.put, List.setIfInBounds_toArray, List.set_cons_zero, List.set_cons_succ, i64_w, i32_w]
          rfl
        refine HW.pz (i := 12) (N := some 35) #[true, true, true, true, true, true, true, true, true, true, true, true, true, false, false, false, false, false] ?_ (hc := any_of HT_.out (by kernel_rfl))
        refine HW.pz (i := 13) (N := some 36) #[true, true, true, true, true, true, true, true, true, true, true, true, true, true, false, false, false, false] ?_ (hc := any_of HT_.out (by kernel_rfl))
        refine take_ (i := 14) (N := some 37) (v := ?_) (a' := ?_) #[true, true, true, true, true, true, true, true, true, true, true, true, true, true, true, false, false, false] rfl rfl (take_ofW HT_.out HW_.out (by kernel_rfl)) (fun _ _ _ h => h) (Or.inl ⟨by rfl, ?_⟩) hHeld ?_ ?_
        rotate_left
        · rintro w' ⟨s0, s1, s2, s3, s4, s5, s6, s7, s8, s9, s10, s11, s12, s13, s14, s15, s16, s17, s18, s19, s20, s21, s22, s23, s24, s25⟩
          go_simp
          with_reducible rfl
        rotate_left
        · simp only [Act.put, List.setIfInBounds_toArray, List.set_cons_zero, List.set_cons_succ, i64_w, i32_w]
          rfl
        refine one_ (i := 15) (N := some 38) #[true, true, true, true, true, true, true, true, true, true, true, true, true, true, true, true, false, false] rfl rfl (one_of HT_.out (by kernel_rfl)) (by decide) (fun K hK => ?_)
        refine goes_ Tryd.func19 (by kernel_rfl) rfl #[.agg #[.int .i64 ((rd_T34 l0_7 x4_1).f1.f0), .string ((rd_T34 l0_7 x4_1).f1.f1), .string ((rd_T34 l0_7 x4_1).f1.f2), .int .i64 ((rd_T34 l0_7 x4_1).f1.f3), .int .u64 ((rd_T34 l0_7 x4_1).f1.f4), .int .u64 ((rd_T34 l0_7 x4_1).f1.f5), .slice A115_7 ((rd_T34 l0_7 x4_1).f1.f6).length c115_7, .slice A115_8 ((rd_T34 l0_7 x4_1).f1.f7).length c115_8]] (by rfl) rfl rfl (by (try simp only [List.map_toArray, List.map_cons, List.map_nil]); first | done | rfl | (simp only [List.length_drop, List.length_take]; rfl)) ?_
        with_reducible refine (ih k1 (by have := HK1.out; omega) ((rd_T34 l0_7 x4_1).f1.f0) ((rd_T34 l0_7 x4_1).f1.f1) ((rd_T34 l0_7 x4_1).f1.f2) ((rd_T34 l0_7 x4_1).f1.f3) ((rd_T34 l0_7 x4_1).f1.f4) ((rd_T34 l0_7 x4_1).f1.f5) _ _ ((rd_T34 l0_7 x4_1).f1.f6) _ _ ((rd_T34 l0_7 x4_1).f1.f7) t117 _ ?side1 ?side2 ?side3 ?side4 A6.out).mono ?_
        (case side1 => repeat (first | exact (Kd.C_below HR116_7.out HB.out) | (with_reducible refine Kd.C_alloc ?_ _) | (with_reducible refine Kd.C_drewN ?_ _) | (with_reducible refine Kd.C_drew ?_)))
        (case side2 => exact HC116_7.out)
        (case side3 => repeat (first | exact (Kd.C_below HR116_8.out HB.out) | (with_reducible refine Kd.C_alloc ?_ _) | (with_reducible refine Kd.C_drewN ?_ _) | (with_reducible refine Kd.C_drew ?_)))
        (case side4 => exact HC116_8.out)
        rintro e w9 ⟨rfl, hb⟩
        refine ⟨_, rfl, ?_⟩
        have n0_ := Aside0.mk (blk_below (g := gb114) (o := .cells #[.int .i64 a0_0, .string a0_1, .string a0_2, .int .i64 a0_3, .int .u64 a0_4, .int .u64 a0_5, .slice A0_6 l0_6.length c0_6, .slice (some ad115) l0_7.length c0_7] 26 (0, 0)) (HW.zB BK114.out) hb)
        have n1_ := Aside0.mk (below_step HW.zb hb)
        clear BK114
        clear HB
        have BK114 := n0_
        have HB := n1_
        clear n0_ n1_
        (try clear hb)
        (try clear hb2)
        (try clear hk)
        (try clear hi)
        refine hK.out _ _ ⟨(blk_cell BK114.out 0).trans rfl, (blk_cell BK114.out 1).trans rfl, (blk_cell BK114.out 2).trans rfl, (blk_cell BK114.out 3).trans rfl, (blk_cell BK114.out 4).trans rfl, (blk_cell BK114.out 5).trans rfl, (blk_cell BK114.out 6).trans rfl, (blk_cell BK114.out 7).trans rfl, ((HB.out.cell (World.block_lt_of_cell? w _ hw115_0)).trans hw115_0), ((HB.out.cell (World.block_lt_of_cell? w _ hw115_1)).trans hw115_1), ((HB.out.cell (World.block_lt_of_cell? w _ hw115_2)).trans hw115_2), ((HB.out.cell (World.block_lt_of_cell? w _ hw115_3)).trans hw115_3), ((HB.out.cell (World.block_lt_of_cell? w _ hw115_4)).trans hw115_4), ((HB.out.cell (World.block_lt_of_cell? w _ hw115_5)).trans hw115_5), ((HB.out.cell (World.block_lt_of_cell? w _ hw115_6)).trans hw115_6), ((HB.out.cell (World.block_lt_of_cell? w _ hw115_7)).trans hw115_7), ((HB.out.cell (World.block_lt_of_cell? w _ hw115_8)).trans hw115_8), ((HB.out.cell (World.block_lt_of_cell? w _ hw116_0)).trans hw116_0), ((HB.out.cell (World.block_lt_of_cell? w _ hw116_1)).trans hw116_1), ((HB.out.cell (World.block_lt_of_cell? w _ hw116_2)).trans hw116_2), ((HB.out.cell (World.block_lt_of_cell? w _ hw116_3)).trans hw116_3), ((HB.out.cell (World.block_lt_of_cell? w _ hw116_4)).trans hw116_4), ((HB.out.cell (World.block_lt_of_cell? w _ hw116_5)).trans hw116_5), ((HB.out.cell (World.block_lt_of_cell? w _ hw116_6)).trans hw116_6), ((HB.out.cell (World.block_lt_of_cell? w _ hw116_7)).trans hw116_7), ((HB.out.cell (World.block_lt_of_cell? w _ hw116_8)).trans hw116_8)⟩ (fun hHeld => ?_)
        clear hK K
        refine HW.nz (N := (some 38)) ?_
        refine HW.pz (i := 16) (N := some 39) #[true, true, true, true, true, true, true, true, true, true, true, true, true, true, true, true, true, false] ?_ (hc := any_of HT_.out (by kernel_rfl))
        refine HW.pz (i := 17) (N := some 3) #[true, true, true, true, true, true, true, true, true, true, true, true, true, true, true, true, true, true] ?_ (hc := any_of HT_.out (by kernel_rfl))
        refine done_ (done_of HT_.out (by kernel_rfl)) ?_
        try go_wp2
        go_roundg k1
        case measure => have := HK1.out; omega
        case rel => exact ⟨(wrap64 ((wrap64 (x3_1 + (((rd_T34 l0_7 x4_1).f0).size : Int))) + t117)), (wrap64 (x4_1 + 1)), (by first | rfl | (simp; done) | (simp [*]; done)), (by first | rfl | (simp; done) | (simp [*]; done)), H', ⟨by have := HK1.out; omega⟩, ⟨by (with_reducible repeat (first | refine blk_drewN ?_ _ | refine blk_drew ?_ | refine blk_alloc ?_ _)); exact BK114.out⟩, ⟨HW.zb⟩⟩

/-! ### laws_bindRight: function 9 -/
def laws_bindRight.f (k : Nat) (a0_0 : Int) (a0_1 : ByteArray) (a0_2 : ByteArray) (a0_3 : Int) (a0_4 : Int) (a0_5 : Int) (l0_6 : List Int) (l0_7 : List (S34)) : Option (Bool) := (laws_docCount.f k a0_0 a0_1 a0_2 a0_3 a0_4 a0_5 l0_6 l0_7 1000).bind fun t119 => (if t119 ≤ 1000 then ((spec_DocRight.f a0_0 a0_1 a0_2 a0_3 a0_4 a0_5 l0_6 l0_7).bind fun t120 => (if t120 = true then ((laws_docBytes.f k a0_0 a0_1 a0_2 a0_3 a0_4 a0_5 l0_6 l0_7).bind fun t121 => (some (decide (t121 ≤ 65536)))) else (some false))) else (some false))
theorem laws_bindRight.mono : ∀ a0 a1 a2 a3 a4 a5 a6 a7 k, LeO (laws_bindRight.f k a0 a1 a2 a3 a4 a5 a6 a7) (laws_bindRight.f (k + 1) a0 a1 a2 a3 a4 a5 a6 a7) := by
  intro a0 a1 a2 a3 a4 a5 a6 a7 k
  unfold laws_bindRight.f
  repeat' first
      | (with_reducible exact laws_docBytes.mono _ _ _ _ _ _ _ _ _)
      | (with_reducible exact laws_docCount.mono _ _ _ _ _ _ _ _ _ _)
      | (with_reducible exact LeO.refl _)
      | (with_reducible exact LeO.none _)
      | (with_reducible refine LeO.ite ?_ ?_)
      | (with_reducible refine LeO.bind ?_ (fun _ => ?_))
      | exact laws_docBytes.mono _ _ _ _ _ _ _ _ _
      | exact laws_docCount.mono _ _ _ _ _ _ _ _ _ _
      | exact LeO.none _
      | refine LeO.ite ?_ ?_
      | refine LeO.bind ?_ (fun _ => ?_)
set_option maxHeartbeats 8000000 in
set_option maxRecDepth 100000 in
theorem laws_bindRight.calls (k : Nat) (a0_0 : Int) (a0_1 : ByteArray) (a0_2 : ByteArray) (a0_3 : Int) (a0_4 : Int) (a0_5 : Int) (A0_6 : Option Addr) (c0_6 : Nat) (l0_6 : List Int) (A0_7 : Option Addr) (c0_7 : Nat) (l0_7 : List (S34)) (r : Bool) (w : World) (hr0_6 : Kd.C (Kd.int .u8) w A0_6 l0_6.length l0_6) (hc0_6 : l0_6.length ≤ c0_6) (hr0_7 : Kd.C k34 w A0_7 l0_7.length l0_7) (hc0_7 : l0_7.length ≤ c0_7) (h : laws_bindRight.f k a0_0 a0_1 a0_2 a0_3 a0_4 a0_5 l0_6 l0_7 = some r) :
    Calls Tryd.prog 9 #[.agg #[.int .i64 a0_0, .string a0_1, .string a0_2, .int .i64 a0_3, .int .u64 a0_4, .int .u64 a0_5, .slice A0_6 l0_6.length c0_6, .slice A0_7 l0_7.length c0_7]] w fun e w' => e = .returned (.bool r) ∧ Below w.heap.size w w' := by
  have hu26 := Tryd.underlying26
  have HR0_6 := Aside0.mk hr0_6
  have HC0_6 := Aside0.mk hc0_6
  clear hr0_6 hc0_6
  have HR0_7 := Aside0.mk hr0_7
  have HC0_7 := Aside0.mk hc0_7
  clear hr0_7 hc0_7
  have HB := Aside0.mk (Below.refl w.heap.size w)
  have H : ((laws_docCount.f k a0_0 a0_1 a0_2 a0_3 a0_4 a0_5 l0_6 l0_7 1000).bind fun t119 => (if t119 ≤ 1000 then ((spec_DocRight.f a0_0 a0_1 a0_2 a0_3 a0_4 a0_5 l0_6 l0_7).bind fun t120 => (if t120 = true then ((laws_docBytes.f k a0_0 a0_1 a0_2 a0_3 a0_4 a0_5 l0_6 l0_7).bind fun t121 => (some (decide (t121 ≤ 65536)))) else (some false))) else (some false))) = some r := h
  clear h
  replace H := Option.bind_eq_some_iff.mp H
  obtain ⟨t119, A20, H⟩ := H
  replace H : (if t119 ≤ 1000 then ((spec_DocRight.f a0_0 a0_1 a0_2 a0_3 a0_4 a0_5 l0_6 l0_7).bind fun t120 => (if t120 = true then ((laws_docBytes.f k a0_0 a0_1 a0_2 a0_3 a0_4 a0_5 l0_6 l0_7).bind fun t121 => (some (decide (t121 ≤ 65536)))) else (some false))) else (some false)) = some r := H
  have A2 := Aside0.mk A20
  clear A20
  by_cases c3 : t119 ≤ 1000
  rotate_left
  · rw [if_neg c3] at H
    have c3b0 : decide (t119 ≤ 1000) = false := decide_eq_false c3
    clear c3
    as_aux_lemma =>
      obtain rfl := Option.some.inj H
      go_enter Tryd.func9, Tryd.ntmps9
      go_wp2_with (first | ((with_reducible refine gate_dst (N := 1) rfl ?_); refine box_event ?hg (N := 1) ?hd (cs := #[.int .i64 a0_0, .string a0_1, .string a0_2, .int .i64 a0_3, .int .u64 a0_4, .int .u64 a0_5, .slice A0_6 l0_6.length c0_6, .slice A0_7 l0_7.length c0_7]) (t := 26) ?hr ?_; (case hd => rfl); (case hg => rfl); (case hr => first | (go_simp; done) | (go_simp; rfl)); intro gb118 hg w19 hbox hb; have n0_ := Aside0.mk (below_step HW.zb hb); have n1_ := Aside0.mk (hbox); have n3_ := Aside0.mk ((by rw [hg]; exact (below_size HW.zb) : w.heap.size ≤ gb118)); clear HB; have HB := n0_; have BK118 := n1_; have GE118 := n3_; clear n0_ n1_ n3_; clear hb hbox hg; have hcz20_0 := HW.zc BK118.out 0 (.int .i64 a0_0); have hcz20_1 := HW.zc BK118.out 1 (.string a0_1); have hcz20_2 := HW.zc BK118.out 2 (.string a0_2); have hcz20_3 := HW.zc BK118.out 3 (.int .i64 a0_3); have hcz20_4 := HW.zc BK118.out 4 (.int .u64 a0_4); have hcz20_5 := HW.zc BK118.out 5 (.int .u64 a0_5); have hcz20_6 := HW.zc BK118.out 6 (.slice A0_6 l0_6.length c0_6); have hcz20_7 := HW.zc BK118.out 7 (.slice A0_7 l0_7.length c0_7)) | ((with_reducible refine gate_callee (f := 17) rfl ?_); refine HW.gz (some 4) rfl rfl Tryd.func17 (by kernel_rfl) rfl #[.agg #[.int .i64 a0_0, .string a0_1, .string a0_2, .int .i64 a0_3, .int .u64 a0_4, .int .u64 a0_5, .slice A0_6 l0_6.length c0_6, .slice A0_7 l0_7.length c0_7], .int .i64 1000] rfl ?_; (with_reducible refine (laws_docCount.calls k a0_0 a0_1 a0_2 a0_3 a0_4 a0_5 _ _ l0_6 _ _ l0_7 1000 t119 _ ?side1 ?side2 ?side3 ?side4 A2.out).mono ?_); (case side1 => repeat (first | exact (Kd.C_below HR0_6.out HB.out) | (with_reducible refine Kd.C_alloc ?_ _) | (with_reducible refine Kd.C_drewN ?_ _) | (with_reducible refine Kd.C_drew ?_))); (case side2 => exact HC0_6.out); (case side3 => repeat (first | exact (Kd.C_below HR0_7.out HB.out) | (with_reducible refine Kd.C_alloc ?_ _) | (with_reducible refine Kd.C_drewN ?_ _) | (with_reducible refine Kd.C_drew ?_))); (case side4 => exact HC0_7.out); rintro e w21 ⟨rfl, hb⟩; refine ⟨_, rfl, ?_⟩; have n0_ := Aside0.mk (blk_below (g := gb118) (o := .cells #[.int .i64 a0_0, .string a0_1, .string a0_2, .int .i64 a0_3, .int .u64 a0_4, .int .u64 a0_5, .slice A0_6 l0_6.length c0_6, .slice A0_7 l0_7.length c0_7] 26 (0, 0)) (HW.zB BK118.out) hb); have n1_ := Aside0.mk (below_step HW.zb hb); clear BK118; clear HB; have BK118 := n0_; have HB := n1_; clear n0_ n1_; (try clear hb); (try clear hb2); (try clear hk); (try clear hi)))
      go_ret
      exact ⟨by first | rfl | (simp [errW_none, errW_some] <;> rfl) | (simp [*, errW_none, errW_some] <;> rfl), HW.zb⟩
  rw [if_pos c3] at H
  have c3b0 : decide (t119 ≤ 1000) = true := decide_eq_true c3
  clear c3
  replace H := Option.bind_eq_some_iff.mp H
  obtain ⟨t120, A40, H⟩ := H
  replace H : (if t120 = true then ((laws_docBytes.f k a0_0 a0_1 a0_2 a0_3 a0_4 a0_5 l0_6 l0_7).bind fun t121 => (some (decide (t121 ≤ 65536)))) else (some false)) = some r := H
  have A4 := Aside0.mk A40
  clear A40
  by_cases c5 : t120 = true
  rotate_left
  · replace c5 := Bool.eq_false_iff.mpr c5
    subst c5
    have H1 : (some false) = some r := by rw [if_neg (show ¬ (false = true) by decide)] at H; exact H
    clear H
    have H := H1
    clear H1
    as_aux_lemma =>
      obtain rfl := Option.some.inj H
      go_enter Tryd.func9, Tryd.ntmps9
      go_wp2_with (first | ((with_reducible refine gate_dst (N := 1) rfl ?_); refine box_event ?hg (N := 1) ?hd (cs := #[.int .i64 a0_0, .string a0_1, .string a0_2, .int .i64 a0_3, .int .u64 a0_4, .int .u64 a0_5, .slice A0_6 l0_6.length c0_6, .slice A0_7 l0_7.length c0_7]) (t := 26) ?hr ?_; (case hd => rfl); (case hg => rfl); (case hr => first | (go_simp; done) | (go_simp; rfl)); intro gb118 hg w14 hbox hb; have n0_ := Aside0.mk (below_step HW.zb hb); have n1_ := Aside0.mk (hbox); have n3_ := Aside0.mk ((by rw [hg]; exact (below_size HW.zb) : w.heap.size ≤ gb118)); clear HB; have HB := n0_; have BK118 := n1_; have GE118 := n3_; clear n0_ n1_ n3_; clear hb hbox hg; have hcz15_0 := HW.zc BK118.out 0 (.int .i64 a0_0); have hcz15_1 := HW.zc BK118.out 1 (.string a0_1); have hcz15_2 := HW.zc BK118.out 2 (.string a0_2); have hcz15_3 := HW.zc BK118.out 3 (.int .i64 a0_3); have hcz15_4 := HW.zc BK118.out 4 (.int .u64 a0_4); have hcz15_5 := HW.zc BK118.out 5 (.int .u64 a0_5); have hcz15_6 := HW.zc BK118.out 6 (.slice A0_6 l0_6.length c0_6); have hcz15_7 := HW.zc BK118.out 7 (.slice A0_7 l0_7.length c0_7)) | ((with_reducible refine gate_callee (f := 17) rfl ?_); refine HW.gz (some 4) rfl rfl Tryd.func17 (by kernel_rfl) rfl #[.agg #[.int .i64 a0_0, .string a0_1, .string a0_2, .int .i64 a0_3, .int .u64 a0_4, .int .u64 a0_5, .slice A0_6 l0_6.length c0_6, .slice A0_7 l0_7.length c0_7], .int .i64 1000] rfl ?_; (with_reducible refine (laws_docCount.calls k a0_0 a0_1 a0_2 a0_3 a0_4 a0_5 _ _ l0_6 _ _ l0_7 1000 t119 _ ?side1 ?side2 ?side3 ?side4 A2.out).mono ?_); (case side1 => repeat (first | exact (Kd.C_below HR0_6.out HB.out) | (with_reducible refine Kd.C_alloc ?_ _) | (with_reducible refine Kd.C_drewN ?_ _) | (with_reducible refine Kd.C_drew ?_))); (case side2 => exact HC0_6.out); (case side3 => repeat (first | exact (Kd.C_below HR0_7.out HB.out) | (with_reducible refine Kd.C_alloc ?_ _) | (with_reducible refine Kd.C_drewN ?_ _) | (with_reducible refine Kd.C_drew ?_))); (case side4 => exact HC0_7.out); rintro e w16 ⟨rfl, hb⟩; refine ⟨_, rfl, ?_⟩; have n0_ := Aside0.mk (blk_below (g := gb118) (o := .cells #[.int .i64 a0_0, .string a0_1, .string a0_2, .int .i64 a0_3, .int .u64 a0_4, .int .u64 a0_5, .slice A0_6 l0_6.length c0_6, .slice A0_7 l0_7.length c0_7] 26 (0, 0)) (HW.zB BK118.out) hb); have n1_ := Aside0.mk (below_step HW.zb hb); clear BK118; clear HB; have BK118 := n0_; have HB := n1_; clear n0_ n1_; (try clear hb); (try clear hb2); (try clear hk); (try clear hi); have hcz17_0 := HW.zc BK118.out 0 (.int .i64 a0_0); have hcz17_1 := HW.zc BK118.out 1 (.string a0_1); have hcz17_2 := HW.zc BK118.out 2 (.string a0_2); have hcz17_3 := HW.zc BK118.out 3 (.int .i64 a0_3); have hcz17_4 := HW.zc BK118.out 4 (.int .u64 a0_4); have hcz17_5 := HW.zc BK118.out 5 (.int .u64 a0_5); have hcz17_6 := HW.zc BK118.out 6 (.slice A0_6 l0_6.length c0_6); have hcz17_7 := HW.zc BK118.out 7 (.slice A0_7 l0_7.length c0_7)) | (go_at_call 18; (with_reducible refine (spec_DocRight.calls a0_0 a0_1 a0_2 a0_3 a0_4 a0_5 _ _ l0_6 _ _ l0_7 false _ ?side1 ?side2 ?side3 ?side4 A4.out).mono ?_); (case side1 => repeat (first | exact (Kd.C_below HR0_6.out HB.out) | (with_reducible refine Kd.C_alloc ?_ _) | (with_reducible refine Kd.C_drewN ?_ _) | (with_reducible refine Kd.C_drew ?_))); (case side2 => exact HC0_6.out); (case side3 => repeat (first | exact (Kd.C_below HR0_7.out HB.out) | (with_reducible refine Kd.C_alloc ?_ _) | (with_reducible refine Kd.C_drewN ?_ _) | (with_reducible refine Kd.C_drew ?_))); (case side4 => exact HC0_7.out); rintro e w18 ⟨rfl, hb⟩; have n0_ := Aside0.mk (blk_below (g := gb118) (o := .cells #[.int .i64 a0_0, .string a0_1, .string a0_2, .int .i64 a0_3, .int .u64 a0_4, .int .u64 a0_5, .slice A0_6 l0_6.length c0_6, .slice A0_7 l0_7.length c0_7] 26 (0, 0)) (HW.zB BK118.out) hb); have n1_ := Aside0.mk (below_step HW.zb hb); clear BK118; clear HB; have BK118 := n0_; have HB := n1_; clear n0_ n1_; (try clear hb); (try clear hb2); (try clear hk); (try clear hi)))
      go_ret
      exact ⟨by first | rfl | (simp [errW_none, errW_some] <;> rfl) | (simp [*, errW_none, errW_some] <;> rfl), HW.zb⟩
  subst c5
  have H1 : ((laws_docBytes.f k a0_0 a0_1 a0_2 a0_3 a0_4 a0_5 l0_6 l0_7).bind fun t121 => (some (decide (t121 ≤ 65536)))) = some r := by rw [if_pos rfl] at H; exact H
  clear H
  have H := H1
  clear H1
  replace H := Option.bind_eq_some_iff.mp H
  obtain ⟨t121, A60, H⟩ := H
  replace H : (some (decide (t121 ≤ 65536))) = some r := H
  have A6 := Aside0.mk A60
  clear A60
  as_aux_lemma =>
    obtain rfl := Option.some.inj H
    go_enter Tryd.func9, Tryd.ntmps9
    go_wp2_with (first | ((with_reducible refine gate_dst (N := 1) rfl ?_); refine box_event ?hg (N := 1) ?hd (cs := #[.int .i64 a0_0, .string a0_1, .string a0_2, .int .i64 a0_3, .int .u64 a0_4, .int .u64 a0_5, .slice A0_6 l0_6.length c0_6, .slice A0_7 l0_7.length c0_7]) (t := 26) ?hr ?_; (case hd => rfl); (case hg => rfl); (case hr => first | (go_simp; done) | (go_simp; rfl)); intro gb118 hg w7 hbox hb; have n0_ := Aside0.mk (below_step HW.zb hb); have n1_ := Aside0.mk (hbox); have n3_ := Aside0.mk ((by rw [hg]; exact (below_size HW.zb) : w.heap.size ≤ gb118)); clear HB; have HB := n0_; have BK118 := n1_; have GE118 := n3_; clear n0_ n1_ n3_; clear hb hbox hg; have hcz8_0 := HW.zc BK118.out 0 (.int .i64 a0_0); have hcz8_1 := HW.zc BK118.out 1 (.string a0_1); have hcz8_2 := HW.zc BK118.out 2 (.string a0_2); have hcz8_3 := HW.zc BK118.out 3 (.int .i64 a0_3); have hcz8_4 := HW.zc BK118.out 4 (.int .u64 a0_4); have hcz8_5 := HW.zc BK118.out 5 (.int .u64 a0_5); have hcz8_6 := HW.zc BK118.out 6 (.slice A0_6 l0_6.length c0_6); have hcz8_7 := HW.zc BK118.out 7 (.slice A0_7 l0_7.length c0_7)) | ((with_reducible refine gate_callee (f := 17) rfl ?_); refine HW.gz (some 4) rfl rfl Tryd.func17 (by kernel_rfl) rfl #[.agg #[.int .i64 a0_0, .string a0_1, .string a0_2, .int .i64 a0_3, .int .u64 a0_4, .int .u64 a0_5, .slice A0_6 l0_6.length c0_6, .slice A0_7 l0_7.length c0_7], .int .i64 1000] rfl ?_; (with_reducible refine (laws_docCount.calls k a0_0 a0_1 a0_2 a0_3 a0_4 a0_5 _ _ l0_6 _ _ l0_7 1000 t119 _ ?side1 ?side2 ?side3 ?side4 A2.out).mono ?_); (case side1 => repeat (first | exact (Kd.C_below HR0_6.out HB.out) | (with_reducible refine Kd.C_alloc ?_ _) | (with_reducible refine Kd.C_drewN ?_ _) | (with_reducible refine Kd.C_drew ?_))); (case side2 => exact HC0_6.out); (case side3 => repeat (first | exact (Kd.C_below HR0_7.out HB.out) | (with_reducible refine Kd.C_alloc ?_ _) | (with_reducible refine Kd.C_drewN ?_ _) | (with_reducible refine Kd.C_drew ?_))); (case side4 => exact HC0_7.out); rintro e w9 ⟨rfl, hb⟩; refine ⟨_, rfl, ?_⟩; have n0_ := Aside0.mk (blk_below (g := gb118) (o := .cells #[.int .i64 a0_0, .string a0_1, .string a0_2, .int .i64 a0_3, .int .u64 a0_4, .int .u64 a0_5, .slice A0_6 l0_6.length c0_6, .slice A0_7 l0_7.length c0_7] 26 (0, 0)) (HW.zB BK118.out) hb); have n1_ := Aside0.mk (below_step HW.zb hb); clear BK118; clear HB; have BK118 := n0_; have HB := n1_; clear n0_ n1_; (try clear hb); (try clear hb2); (try clear hk); (try clear hi); have hcz10_0 := HW.zc BK118.out 0 (.int .i64 a0_0); have hcz10_1 := HW.zc BK118.out 1 (.string a0_1); have hcz10_2 := HW.zc BK118.out 2 (.string a0_2); have hcz10_3 := HW.zc BK118.out 3 (.int .i64 a0_3); have hcz10_4 := HW.zc BK118.out 4 (.int .u64 a0_4); have hcz10_5 := HW.zc BK118.out 5 (.int .u64 a0_5); have hcz10_6 := HW.zc BK118.out 6 (.slice A0_6 l0_6.length c0_6); have hcz10_7 := HW.zc BK118.out 7 (.slice A0_7 l0_7.length c0_7)) | (go_at_call 18; (with_reducible refine (spec_DocRight.calls a0_0 a0_1 a0_2 a0_3 a0_4 a0_5 _ _ l0_6 _ _ l0_7 true _ ?side1 ?side2 ?side3 ?side4 A4.out).mono ?_); (case side1 => repeat (first | exact (Kd.C_below HR0_6.out HB.out) | (with_reducible refine Kd.C_alloc ?_ _) | (with_reducible refine Kd.C_drewN ?_ _) | (with_reducible refine Kd.C_drew ?_))); (case side2 => exact HC0_6.out); (case side3 => repeat (first | exact (Kd.C_below HR0_7.out HB.out) | (with_reducible refine Kd.C_alloc ?_ _) | (with_reducible refine Kd.C_drewN ?_ _) | (with_reducible refine Kd.C_drew ?_))); (case side4 => exact HC0_7.out); rintro e w11 ⟨rfl, hb⟩; have n0_ := Aside0.mk (blk_below (g := gb118) (o := .cells #[.int .i64 a0_0, .string a0_1, .string a0_2, .int .i64 a0_3, .int .u64 a0_4, .int .u64 a0_5, .slice A0_6 l0_6.length c0_6, .slice A0_7 l0_7.length c0_7] 26 (0, 0)) (HW.zB BK118.out) hb); have n1_ := Aside0.mk (below_step HW.zb hb); clear BK118; clear HB; have BK118 := n0_; have HB := n1_; clear n0_ n1_; (try clear hb); (try clear hb2); (try clear hk); (try clear hi); have hcz12_0 := HW.zc BK118.out 0 (.int .i64 a0_0); have hcz12_1 := HW.zc BK118.out 1 (.string a0_1); have hcz12_2 := HW.zc BK118.out 2 (.string a0_2); have hcz12_3 := HW.zc BK118.out 3 (.int .i64 a0_3); have hcz12_4 := HW.zc BK118.out 4 (.int .u64 a0_4); have hcz12_5 := HW.zc BK118.out 5 (.int .u64 a0_5); have hcz12_6 := HW.zc BK118.out 6 (.slice A0_6 l0_6.length c0_6); have hcz12_7 := HW.zc BK118.out 7 (.slice A0_7 l0_7.length c0_7)) | (go_at_call 19; (with_reducible refine (laws_docBytes.calls k a0_0 a0_1 a0_2 a0_3 a0_4 a0_5 _ _ l0_6 _ _ l0_7 t121 _ ?side1 ?side2 ?side3 ?side4 A6.out).mono ?_); (case side1 => repeat (first | exact (Kd.C_below HR0_6.out HB.out) | (with_reducible refine Kd.C_alloc ?_ _) | (with_reducible refine Kd.C_drewN ?_ _) | (with_reducible refine Kd.C_drew ?_))); (case side2 => exact HC0_6.out); (case side3 => repeat (first | exact (Kd.C_below HR0_7.out HB.out) | (with_reducible refine Kd.C_alloc ?_ _) | (with_reducible refine Kd.C_drewN ?_ _) | (with_reducible refine Kd.C_drew ?_))); (case side4 => exact HC0_7.out); rintro e w13 ⟨rfl, hb⟩; have n1_ := Aside0.mk (below_step HW.zb hb); clear HB; have HB := n1_; clear n1_; (try clear hb); (try clear hb2); (try clear hk); (try clear hi)))
    go_ret
    exact ⟨by first | rfl | (simp [errW_none, errW_some] <;> rfl) | (simp [*, errW_none, errW_some] <;> rfl), HW.zb⟩

/-! ### spec_DocHead: function 30 -/
def spec_DocHead.f (a0 : Int) (a1 : ByteArray) : Option (List Int) := (some (([(a0) % 256] : List Int) : List Int)).bind fun y122 => (if y122.length + a1.size < 140737488355328 then ((some (y122 ++ bytesOf a1 : List Int)).bind fun y125 => (if y125.length < 140737488355328 then (some (y125 ++ [0])) else (none))) else (none))
set_option maxHeartbeats 8000000 in
set_option maxRecDepth 100000 in
theorem spec_DocHead.calls (a0 : Int) (a1 : ByteArray) (r : List Int) (w : World) (h : spec_DocHead.f a0 a1 = some r) :
    Calls Tryd.prog 30 #[.int .i64 a0, .string a1] w fun e w' => ∃ v0_ : Value, e = .returned (v0_) ∧ Kd.R (Kd.int .u8) 5 w' w.heap.size (fun _ => True) v0_ r ∧ Below w.heap.size w w' := by
  have HB := Aside0.mk (Below.refl w.heap.size w)
  have H : ((some (([(a0) % 256] : List Int) : List Int)).bind fun y122 => (if y122.length + a1.size < 140737488355328 then ((some (y122 ++ bytesOf a1 : List Int)).bind fun y125 => (if y125.length < 140737488355328 then (some (y125 ++ [0])) else (none))) else (none))) = some r := h
  clear h
  obtain ⟨y122, hy122⟩ : ∃ y_ : List Int, y_ = (([(a0) % 256] : List Int)) := ⟨_, rfl⟩
  replace H : (if y122.length + a1.size < 140737488355328 then ((some (y122 ++ bytesOf a1 : List Int)).bind fun y125 => (if y125.length < 140737488355328 then (some (y125 ++ [0])) else (none))) else (none)) = some r := by first | (rw [hy122]; with_reducible exact H) | (have H2_ := (Option.bind_some _ _).symm.trans H; rw [hy122]; with_reducible exact H2_) | (have H2_ := (Option.bind_some _ _).symm.trans H; with_reducible exact H2_) | with_reducible exact H | (rw [hy122]; exact H) | exact H
  have Ny122 := Aside0.mk hy122
  clear hy122
  by_cases c3 : y122.length + a1.size < 140737488355328
  rotate_left
  · rw [if_neg c3] at H
    exact absurd H (by simp)
  rw [if_pos c3] at H
  have LMc3 := Aside0.mk c3
  clear c3
  obtain ⟨y125, hy125⟩ : ∃ y_ : List Int, y_ = (y122 ++ bytesOf a1) := ⟨_, rfl⟩
  replace H : (if y125.length < 140737488355328 then (some (y125 ++ [0])) else (none)) = some r := by first | (rw [hy125]; with_reducible exact H) | (have H2_ := (Option.bind_some _ _).symm.trans H; rw [hy125]; with_reducible exact H2_) | (have H2_ := (Option.bind_some _ _).symm.trans H; with_reducible exact H2_) | with_reducible exact H | (rw [hy125]; exact H) | exact H
  have Ny125 := Aside0.mk hy125
  clear hy125
  by_cases c4 : y125.length < 140737488355328
  rotate_left
  · rw [if_neg c4] at H
    exact absurd H (by simp)
  rw [if_pos c4] at H
  have LMc4 := Aside0.mk c4
  clear c4
  obtain ⟨y128, hy128⟩ : ∃ y_ : List Int, y_ = (y125 ++ [0]) := ⟨_, rfl⟩
  replace H : (some y128) = some r := by first | (rw [hy128]; with_reducible exact H) | (have H2_ := (Option.bind_some _ _).symm.trans H; rw [hy128]; with_reducible exact H2_) | (have H2_ := (Option.bind_some _ _).symm.trans H; with_reducible exact H2_) | with_reducible exact H | (rw [hy128]; exact H) | exact H
  have Ny128 := Aside0.mk hy128
  clear hy128
  as_aux_lemma =>
    obtain rfl := Option.some.inj H
    go_enter Tryd.func30, Tryd.ntmps30
    go_wp2_with (first | ((with_reducible refine gate_dst (N := 8) rfl ?_); refine Kd.R_lit (Kd.int .u8) _ 5 ?hg (N := 8) ?hd (xs := ([(a0) % 256] : List Int)) (inner := [.int .u8 ((a0) % 256)]) (ok := fun _ => True) (okp := fun _ => True) ?hr ?hp (fun _ hk => hk) trivial (Below.refl _ _) (Nat.le_refl _) (by simp) ?_; (case hd => rfl); (case hg => rfl); (case hr => first | (go_simp; done) | (go_simp; rfl)); (case hp => exact (Reps.one (show Kd.M (Kd.int .u8) _ _ _ ((a0) % 256) [.int .u8 ((a0) % 256)] from rfl) (Reps.none _ _))); intro v123 w5 ho6 hb hg_ hnew_; clear hg_ hnew_; (first | rw [← Ny122.out] at ho6 | (simp only [Int.reduceToNat] at ho6; rw [← Ny122.out] at ho6)); have n0_ := Aside0.mk (Kd.R_lower ho6 (below_size HW.zb)); have n1_ := Aside0.mk (below_step HW.zb hb); clear HB; have HO124 := n0_; have HB := n1_; clear n0_ n1_; clear hb ho6) | (at_builtin; refine HW.R_append_str (w0 := w) w.heap.size rfl (.tmp 8) _ 23 9 5 rfl Tryd.underlying23 Tryd.underlying9 info5 v123 y122 a1 (fun _ => True) rfl rfl ?aO ?aF ?aB ?aS ?aL ?_; (case aB => exact HW.zb); (case aF => exact (fun _ _ => trivial)); (case aO => exact (HW.zR HO124.out)); (case aS => exact (below_size HW.zb)); (case aL => have := LMc3.out; omega); intro v126 w7 ho hb hg hat; rw [← Ny125.out] at ho; have n0_ := Aside0.mk (hb); have n1_ := Aside0.mk (ho); clear HB; clear HO124; have HB := n0_; have HO127 := n1_; clear n0_ n1_; clear ho hb hg hat) | ((with_reducible refine gate_builtin (b := .append) (xs := #[.tmp 11, .tmp 12]) rfl ?_); at_builtin; refine Kd.R_append (Kd.int .u8) (w0 := w) w.heap.size rfl (.tmp 11) (.tmp 12) 23 5 (.int .u8 0) 1 rfl Tryd.underlying23 info5 rfl (by decide) (by omega) v126 y125 0 [.int .u8 0] (fun _ => True) (fun _ => False) rfl rfl ?aP (fun _ hk => hk.elim) ?aF ?aO ?aB ?aS ?aL ?_; (case aP => exact rfl); (case aB => exact HW.zb); (case aF => exact (fun _ _ => trivial)); (case aO => exact (HW.zR HO127.out)); (case aS => exact (below_size HW.zb)); (case aL => have := LMc4.out; omega); intro v129 w8 ho hb hg hat; rw [← Ny128.out] at ho; have n0_ := Aside0.mk (hb); have n1_ := Aside0.mk (ho); clear HB; clear HO127; have HB := n0_; have HO130 := n1_; clear n0_ n1_; clear ho hb hg hat))
    go_ret
    exact ⟨_, by first | rfl | (simp [errW_none, errW_some] <;> rfl) | (simp [*, errW_none, errW_some] <;> rfl), HW.zR HO130.out, HW.zb⟩

/-! ### spec_DocInt32: function 21 -/
def spec_DocInt32.f (l0 : List Int) (a1 : Int) : Option (List Int) := (some (([(a1) % 256, (a1 / 256) % 256, (a1 / 65536) % 256, (a1 / 16777216) % 256] : List Int) : List Int)).bind fun y131 => (if l0.length + y131.length < 140737488355328 then (some (l0 ++ y131)) else (none))
set_option maxHeartbeats 8000000 in
set_option maxRecDepth 100000 in
theorem spec_DocInt32.calls (P0_ : Nat → Prop) (u9000_ : Value) (l0 : List Int) (a1 : Int) (r : List Int) (w0 w : World) (hB : Below w0.heap.size w0 w) (ho0 : Kd.R (Kd.int .u8) 5 w w0.heap.size P0_ u9000_ l0) (h : spec_DocInt32.f l0 a1 = some r) :
    Calls Tryd.prog 21 #[u9000_, .int .i64 a1] w fun e w' => ∃ v0_ : Value, e = .returned (v0_) ∧ Kd.R (Kd.int .u8) 5 w' w0.heap.size (fun k_ => (P0_ k_ ∨ w.heap.size ≤ k_)) v0_ r ∧ Below w0.heap.size w0 w' ∧ Kept w w' (fun k_ => P0_ k_) := by
  have HO0 := Aside0.mk (show Kd.R (Kd.int .u8) 5 w w0.heap.size (fun k_ => (P0_ k_ ∨ w.heap.size ≤ k_)) u9000_ l0 from Kd.R_mono ho0 (fun k_ hk => (.inl hk)))
  have HK := Aside0.mk (Kept.refl w (fun k_ => P0_ k_))
  have HW0 := Aside0.mk hB.size
  have HB := Aside0.mk hB
  clear hB
  have H : ((some (([(a1) % 256, (a1 / 256) % 256, (a1 / 65536) % 256, (a1 / 16777216) % 256] : List Int) : List Int)).bind fun y131 => (if l0.length + y131.length < 140737488355328 then (some (l0 ++ y131)) else (none))) = some r := h
  clear h
  obtain ⟨y131, hy131⟩ : ∃ y_ : List Int, y_ = (([(a1) % 256, (a1 / 256) % 256, (a1 / 65536) % 256, (a1 / 16777216) % 256] : List Int)) := ⟨_, rfl⟩
  replace H : (if l0.length + y131.length < 140737488355328 then (some (l0 ++ y131)) else (none)) = some r := by first | (rw [hy131]; with_reducible exact H) | (have H2_ := (Option.bind_some _ _).symm.trans H; rw [hy131]; with_reducible exact H2_) | (have H2_ := (Option.bind_some _ _).symm.trans H; with_reducible exact H2_) | with_reducible exact H | (rw [hy131]; exact H) | exact H
  have Ny131 := Aside0.mk hy131
  clear hy131
  by_cases c3 : l0.length + y131.length < 140737488355328
  rotate_left
  · rw [if_neg c3] at H
    exact absurd H (by simp)
  rw [if_pos c3] at H
  have LMc3 := Aside0.mk c3
  clear c3
  obtain ⟨y134, hy134⟩ : ∃ y_ : List Int, y_ = (l0 ++ y131) := ⟨_, rfl⟩
  replace H : (some y134) = some r := by first | (rw [hy134]; with_reducible exact H) | (have H2_ := (Option.bind_some _ _).symm.trans H; rw [hy134]; with_reducible exact H2_) | (have H2_ := (Option.bind_some _ _).symm.trans H; with_reducible exact H2_) | with_reducible exact H | (rw [hy134]; exact H) | exact H
  have Ny134 := Aside0.mk hy134
  clear hy134
  as_aux_lemma =>
    obtain rfl := Option.some.inj H
    go_enter Tryd.func21, Tryd.ntmps21
    go_wp2_with (first | ((with_reducible refine gate_dst (N := 17) rfl ?_); refine Kd.R_lit (Kd.int .u8) _ 5 ?hg (N := 17) ?hd (xs := ([(a1) % 256, (a1 / 256) % 256, (a1 / 65536) % 256, (a1 / 16777216) % 256] : List Int)) (inner := [.int .u8 ((a1) % 256), .int .u8 ((a1 / 256) % 256), .int .u8 ((a1 / 65536) % 256), .int .u8 ((a1 / 16777216) % 256)]) (ok := fun _ => True) (okp := fun _ => True) ?hr ?hp (fun _ hk => hk) trivial (Below.refl _ _) (Nat.le_refl _) (by simp) ?_; (case hd => rfl); (case hg => rfl); (case hr => first | (go_simp; done) | (go_simp; rfl)); (case hp => exact (Reps.one (show Kd.M (Kd.int .u8) _ _ _ ((a1) % 256) [.int .u8 ((a1) % 256)] from rfl) (Reps.one (show Kd.M (Kd.int .u8) _ _ _ ((a1 / 256) % 256) [.int .u8 ((a1 / 256) % 256)] from rfl) (Reps.one (show Kd.M (Kd.int .u8) _ _ _ ((a1 / 65536) % 256) [.int .u8 ((a1 / 65536) % 256)] from rfl) (Reps.one (show Kd.M (Kd.int .u8) _ _ _ ((a1 / 16777216) % 256) [.int .u8 ((a1 / 16777216) % 256)] from rfl) (Reps.none _ _)))))); intro v132 w4 ho5 hb hg_ hnew_; clear hg_ hnew_; (first | rw [← Ny131.out] at ho5 | (simp only [Int.reduceToNat] at ho5; rw [← Ny131.out] at ho5)); have n0_ := Aside0.mk (Kd.R_elder' (HW.zR HO0.out) (Kd.R_base ho5) hb); have n1_ := Aside0.mk (Kd.R_lower (Kd.R_new' (Kd.R_newM (M := fun k_ => (P0_ k_ ∨ w.heap.size ≤ k_)) ho5 (HW.zk1 (w := w) (fun k_ => P0_ k_)) (fun k_ h_ => .inr h_)) (Kd.R_lt (HW.zR HO0.out))) (below_size HW.zb)); have n2_ := Aside0.mk (Kept.below (S := (fun k_ => P0_ k_)) HW.zk hb); have n3_ := Aside0.mk (below_step HW.zb hb); clear HO0; clear HK; clear HB; have HO0 := n0_; have HO133 := n1_; have HK := n2_; have HB := n3_; clear n0_ n1_ n2_ n3_; clear hb ho5; obtain ⟨Ao7, co7, eo7⟩ := Kd.R_slice HO133.out; subst eo7) | ((with_reducible refine gate_builtin (b := .append) (xs := #[.tmp 5, .tmp 17]) rfl ?_); at_builtin; refine Kd.R_append_rows (Kd.int .u8) (w0 := w0) w0.heap.size rfl (.tmp 5) (.tmp 17) 23 5 (.int .u8 0) 1 rfl Tryd.underlying23 info5 rfl (by decide) (by omega) u9000_ l0 y131 _ _ _ (fun k_ => (P0_ k_ ∨ w.heap.size ≤ k_) ∧ some k_ ≠ (.slice Ao7 y131.length co7 : Value).ownBlock) (fun _ => False) rfl rfl ?aO ?aR (fun _ _ h => h) (fun _ h => h.elim) ?aF ?aB ?aS ?aL ?_; (case aR => repeat (first | exact (Kd.R_reads' HO133.out).2.2 | (with_reducible refine Kd.C_alloc ?_ _) | (with_reducible refine Kd.C_drewN ?_ _) | (with_reducible refine Kd.C_drew ?_))); (case aB => exact HW.zb); (case aF => exact (fun k_ hk => ⟨(.inr (Nat.le_trans (HW.zk1 (w := w) (fun k_ => P0_ k_)) hk)), Kd.fresh' (Kd.R_lt (HW.zR HO133.out)) k_ hk⟩)); (case aO => exact (HW.zR HO0.out)); (case aS => exact (below_size HW.zb)); (case aL => have := LMc3.out; omega); intro v135 w6 ho hb hg hat; rw [← Ny134.out] at ho; have n1_ := Aside0.mk (hb); have n2_ := Aside0.mk (Kept.of_grown (S := (fun k_ => P0_ k_)) hg HW.zk (fun k_ e_ => (HO0.out.1 k_ e_).1)); have n3_ := Aside0.mk (ho); clear HB; clear HK; clear HO0; have HB := n1_; have HK := n2_; have HO136 := n3_; clear n1_ n2_ n3_; clear ho hb hg hat))
    go_ret
    exact ⟨_, by first | rfl | (simp [errW_none, errW_some] <;> rfl) | (simp [*, errW_none, errW_some] <;> rfl), by (with_reducible repeat (first | apply Kd.R_alloc | apply Kd.R_drewN | apply Kd.R_drew)); exact Kd.R_mono HO136.out (fun _ hk => hk.1), HW.zb, HW.zk⟩

/-! ### spec_DocInt64: function 41 -/
def spec_DocInt64.l0 : Nat → List Int → Int → Int → Option (List Int)
  | 0, _, _, _ => none
  | k + 1, x0, x1, x5 => if x5 < 64 then (if 0 ≤ x5 then (if x0.length < 140737488355328 then (spec_DocInt64.l0 k (x0 ++ [(shr .u64 x1 x5) % 256]) x1 (wrap64 (x5 + 8))) else (none)) else (none)) else (some x0)
def spec_DocInt64.f (k : Nat) (l0 : List Int) (a1 : Int) : Option (List Int) := spec_DocInt64.l0 k l0 a1 0
theorem spec_DocInt64.mono_l : ∀ k, (∀ y0 y1 y2, LeO (spec_DocInt64.l0 k y0 y1 y2) (spec_DocInt64.l0 (k + 1) y0 y1 y2))
  | 0 => fun _ _ _ r h => by simp [spec_DocInt64.l0] at h
  | k + 1 => by
    have ih0 := spec_DocInt64.mono_l k
    · intro y0 y1 y2
      unfold spec_DocInt64.l0
      repeat' first
      | (with_reducible exact ih0 _ _ _)
      | (with_reducible exact LeO.refl _)
      | (with_reducible exact LeO.none _)
      | (with_reducible refine LeO.ite ?_ ?_)
      | (with_reducible refine LeO.bind ?_ (fun _ => ?_))
      | exact ih0 _ _ _
      | exact LeO.none _
      | refine LeO.ite ?_ ?_
      | refine LeO.bind ?_ (fun _ => ?_)
theorem spec_DocInt64.mono : ∀ a0 a1 k, LeO (spec_DocInt64.f k a0 a1) (spec_DocInt64.f (k + 1) a0 a1) := by
  intro a0 a1 k
  have ih0 := spec_DocInt64.mono_l k
  unfold spec_DocInt64.f
  repeat' first
      | (with_reducible exact ih0 _ _ _)
      | (with_reducible exact LeO.refl _)
      | (with_reducible exact LeO.none _)
      | (with_reducible refine LeO.ite ?_ ?_)
      | (with_reducible refine LeO.bind ?_ (fun _ => ?_))
      | exact ih0 _ _ _
      | exact LeO.none _
      | refine LeO.ite ?_ ?_
      | refine LeO.bind ?_ (fun _ => ?_)
set_option maxHeartbeats 8000000 in
set_option maxRecDepth 100000 in
theorem spec_DocInt64.calls (k : Nat) (P0_ : Nat → Prop) (u9000_ : Value) (l0 : List Int) (a1 : Int) (r : List Int) (w0 w : World) (hB : Below w0.heap.size w0 w) (ho0 : Kd.R (Kd.int .u8) 5 w w0.heap.size P0_ u9000_ l0) (h : spec_DocInt64.f k l0 a1 = some r) :
    Calls Tryd.prog 41 #[u9000_, .int .u64 a1] w fun e w' => ∃ v0_ : Value, e = .returned (v0_) ∧ Kd.R (Kd.int .u8) 5 w' w0.heap.size (fun k_ => (P0_ k_ ∨ w.heap.size ≤ k_)) v0_ r ∧ Below w0.heap.size w0 w' ∧ Kept w w' (fun k_ => P0_ k_) := by
  have HO0 := Aside0.mk (show Kd.R (Kd.int .u8) 5 w w0.heap.size (fun k_ => (P0_ k_ ∨ w.heap.size ≤ k_)) u9000_ l0 from Kd.R_mono ho0 (fun k_ hk => (.inl hk)))
  have HK := Aside0.mk (Kept.refl w (fun k_ => P0_ k_))
  have HW0 := Aside0.mk hB.size
  have HB := Aside0.mk hB
  clear hB
  have H : (spec_DocInt64.l0 k l0 a1 0) = some r := h
  clear h
  have H' := Aside0.mk H
  clear H
  go_enter Tryd.func41, Tryd.ntmps41
  go_wp2
  go_loopg [0, 5] k (fun kq v0 v5 w' => ∃ (x0_1 : List Int) (x5_1 : Int), v5 = .int .i64 x5_1 ∧ Aside0 (spec_DocInt64.l0 kq x0_1 a1 x5_1 = some r) ∧ Aside0 (kq ≤ k) ∧ Aside0 (Kd.R (Kd.int .u8) 5 w' w0.heap.size (fun k_ => (P0_ k_ ∨ w.heap.size ≤ k_)) v0 x0_1) ∧ Aside0 (Kept w w' (fun k_ => P0_ k_)) ∧ Aside0 (Below w0.heap.size w0 w'))
  case atStart => exact ⟨(l0), (0), (by first | rfl | (simp; done) | (simp [*]; done)), H', ⟨Nat.le_refl _⟩, ⟨HW.zR HO0.out⟩, ⟨HW.zk⟩, ⟨HW.zb⟩⟩
  case round =>
    clear H'
    try clear p2
    obtain ⟨x0_1, x5_1, rfl, HA, HK1, HO_0, HK, HB⟩ := hrel
    cases gk with
    | zero => exact absurd HA.out (by simp [spec_DocInt64.l0])
    | succ k1 =>
      have H := HA.out
      clear HA
      simp only [spec_DocInt64.l0] at H
      by_cases c3 : x5_1 < 64
      rotate_left
      · rw [if_neg c3] at H
        have c3b0 : decide (x5_1 < 64) = false := decide_eq_false c3
        clear c3
        as_aux_lemma =>
          obtain rfl := Option.some.inj H
          go_wp2
          go_ret
          exact ⟨_, by first | rfl | (simp [errW_none, errW_some] <;> rfl) | (simp [*, errW_none, errW_some] <;> rfl), HW.zR HO_0.out, HW.zb, HW.zk⟩
      rw [if_pos c3] at H
      have c3b0 : decide (x5_1 < 64) = true := decide_eq_true c3
      clear c3
      by_cases c4 : 0 ≤ x5_1
      rotate_left
      · rw [if_neg c4] at H
        exact absurd H (by simp)
      rw [if_pos c4] at H
      have c4b0 := eq_true c4
      have c4b1 : decide (0 ≤ x5_1) = true := decide_eq_true c4
      clear c4
      obtain ⟨ji5, hji5⟩ : ∃ j_ : Int, (shr .u64 a1 x5_1) = j_ := ⟨_, rfl⟩
      replace H : (if x0_1.length < 140737488355328 then (spec_DocInt64.l0 k1 (x0_1 ++ [(ji5) % 256]) a1 (wrap64 (x5_1 + 8))) else (none)) = some r := by first | (rw [hji5] at H; exact H) | (simp only [hji5] at H ⊢; exact H)
      have hji5_ : (a1 / 2 ^ min x5_1.toNat 64) = ji5 := hji5
      have hji5z : x5_1 ≤ 64 → (a1 / 2 ^ x5_1.toNat) = ji5 := shr_small hji5
      by_cases c6 : x0_1.length < 140737488355328
      rotate_left
      · rw [if_neg c6] at H
        exact absurd H (by simp)
      rw [if_pos c6] at H
      have LMc6 := Aside0.mk c6
      clear c6
      obtain ⟨y137, hy137⟩ : ∃ y_ : List Int, y_ = (x0_1 ++ [(ji5) % 256]) := ⟨_, rfl⟩
      replace H : (spec_DocInt64.l0 k1 y137 a1 (wrap64 (x5_1 + 8))) = some r := by first | (rw [hy137]; with_reducible exact H) | (have H2_ := (Option.bind_some _ _).symm.trans H; rw [hy137]; with_reducible exact H2_) | (have H2_ := (Option.bind_some _ _).symm.trans H; with_reducible exact H2_) | with_reducible exact H | (rw [hy137]; exact H) | exact H
      have Ny137 := Aside0.mk hy137
      clear hy137
      as_aux_lemma =>
        have H' := Aside0.mk H
        clear H
        go_wp2_with (first | ((with_reducible refine gate_builtin (b := .append) (xs := #[.tmp 10, .tmp 15]) rfl ?_); at_builtin; refine Kd.R_append (Kd.int .u8) (w0 := w0) w0.heap.size rfl (.tmp 10) (.tmp 15) 23 5 (.int .u8 0) 1 rfl Tryd.underlying23 info5 rfl (by decide) (by omega) u0 x0_1 ((ji5) % 256) [.int .u8 ((ji5) % 256)] (fun k_ => (P0_ k_ ∨ w.heap.size ≤ k_)) (fun _ => False) rfl rfl ?aP (fun _ hk => hk.elim) ?aF ?aO ?aB ?aS ?aL ?_; (case aP => exact rfl); (case aB => exact HW.zb); (case aF => exact (fun k_ hk => (.inr (Nat.le_trans (HW.zk1 (w := w) (fun k_ => P0_ k_)) hk)))); (case aO => exact (HW.zR HO_0.out)); (case aS => exact (below_size HW.zb)); (case aL => have := LMc6.out; omega); intro v138 w7 ho hb hg hat; rw [← Ny137.out] at ho; have n0_ := Aside0.mk (hb); have n1_ := Aside0.mk (Kept.of_grown (S := (fun k_ => P0_ k_)) hg HW.zk (fun k_ e_ => (HO_0.out.1 k_ e_))); have n2_ := Aside0.mk (ho); clear HB; clear HK; clear HO_0; have HB := n0_; have HK := n1_; have HO139 := n2_; clear n0_ n1_ n2_; clear ho hb hg hat))
        go_roundg k1
        case measure => have := HK1.out; omega
        case rel => exact ⟨(y137), (wrap64 (x5_1 + 8)), (by first | rfl | (simp; done) | (simp [*]; done)), H', ⟨by have := HK1.out; omega⟩, ⟨HW.zR HO139.out⟩, ⟨HW.zk⟩, ⟨HW.zb⟩⟩

/-! ### spec_docText: function 42 -/
def spec_docText.f (l0 : List Int) (a1 : ByteArray) : Option (List Int) := (spec_DocInt32.f l0 (wrap64 ((a1.size : Int) + 1))).bind fun t140 => (if t140.length + a1.size < 140737488355328 then ((some (t140 ++ bytesOf a1 : List Int)).bind fun y143 => (if y143.length < 140737488355328 then (some (y143 ++ [0])) else (none))) else (none))
set_option maxHeartbeats 8000000 in
set_option maxRecDepth 100000 in
theorem spec_docText.calls (P0_ : Nat → Prop) (u9000_ : Value) (l0 : List Int) (a1 : ByteArray) (r : List Int) (w0 w : World) (hB : Below w0.heap.size w0 w) (ho0 : Kd.R (Kd.int .u8) 5 w w0.heap.size P0_ u9000_ l0) (h : spec_docText.f l0 a1 = some r) :
    Calls Tryd.prog 42 #[u9000_, .string a1] w fun e w' => ∃ v0_ : Value, e = .returned (v0_) ∧ Kd.R (Kd.int .u8) 5 w' w0.heap.size (fun k_ => (P0_ k_ ∨ w.heap.size ≤ k_)) v0_ r ∧ Below w0.heap.size w0 w' ∧ Kept w w' (fun k_ => P0_ k_) := by
  have HO0 := Aside0.mk (show Kd.R (Kd.int .u8) 5 w w0.heap.size (fun k_ => (P0_ k_ ∨ w.heap.size ≤ k_)) u9000_ l0 from Kd.R_mono ho0 (fun k_ hk => (.inl hk)))
  have HK := Aside0.mk (Kept.refl w (fun k_ => P0_ k_))
  have HW0 := Aside0.mk hB.size
  have HB := Aside0.mk hB
  clear hB
  have H : ((spec_DocInt32.f l0 (wrap64 ((a1.size : Int) + 1))).bind fun t140 => (if t140.length + a1.size < 140737488355328 then ((some (t140 ++ bytesOf a1 : List Int)).bind fun y143 => (if y143.length < 140737488355328 then (some (y143 ++ [0])) else (none))) else (none))) = some r := h
  clear h
  replace H := Option.bind_eq_some_iff.mp H
  obtain ⟨t140, A30, H⟩ := H
  replace H : (if t140.length + a1.size < 140737488355328 then ((some (t140 ++ bytesOf a1 : List Int)).bind fun y143 => (if y143.length < 140737488355328 then (some (y143 ++ [0])) else (none))) else (none)) = some r := H
  have A3 := Aside0.mk A30
  clear A30
  by_cases c4 : t140.length + a1.size < 140737488355328
  rotate_left
  · rw [if_neg c4] at H
    exact absurd H (by simp)
  rw [if_pos c4] at H
  have LMc4 := Aside0.mk c4
  clear c4
  obtain ⟨y143, hy143⟩ : ∃ y_ : List Int, y_ = (t140 ++ bytesOf a1) := ⟨_, rfl⟩
  replace H : (if y143.length < 140737488355328 then (some (y143 ++ [0])) else (none)) = some r := by first | (rw [hy143]; with_reducible exact H) | (have H2_ := (Option.bind_some _ _).symm.trans H; rw [hy143]; with_reducible exact H2_) | (have H2_ := (Option.bind_some _ _).symm.trans H; with_reducible exact H2_) | with_reducible exact H | (rw [hy143]; exact H) | exact H
  have Ny143 := Aside0.mk hy143
  clear hy143
  by_cases c5 : y143.length < 140737488355328
  rotate_left
  · rw [if_neg c5] at H
    exact absurd H (by simp)
  rw [if_pos c5] at H
  have LMc5 := Aside0.mk c5
  clear c5
  obtain ⟨y146, hy146⟩ : ∃ y_ : List Int, y_ = (y143 ++ [0]) := ⟨_, rfl⟩
  replace H : (some y146) = some r := by first | (rw [hy146]; with_reducible exact H) | (have H2_ := (Option.bind_some _ _).symm.trans H; rw [hy146]; with_reducible exact H2_) | (have H2_ := (Option.bind_some _ _).symm.trans H; with_reducible exact H2_) | with_reducible exact H | (rw [hy146]; exact H) | exact H
  have Ny146 := Aside0.mk hy146
  clear hy146
  as_aux_lemma =>
    obtain rfl := Option.some.inj H
    obtain ⟨Ao6, co6, eo6⟩ := Kd.R_slice HO0.out
    subst eo6
    go_enter Tryd.func42, Tryd.ntmps42
    go_wp2_with (first | ((with_reducible refine gate_callee (f := 21) rfl ?_); refine HW.gz (some 9) rfl rfl Tryd.func21 (by kernel_rfl) rfl #[.slice Ao6 l0.length co6, .int .i64 (wrap64 ((a1.size : Int) + 1))] rfl ?_; (with_reducible refine (spec_DocInt32.calls (fun k_ => some k_ = (.slice Ao6 l0.length co6 : Value).ownBlock) (.slice Ao6 l0.length co6) l0 (wrap64 ((a1.size : Int) + 1)) t140 w0 _ ?side1 ?side2 A3.out).mono ?_); (case side1 => exact HW.zb); (case side2 => exact Kd.R_tight rfl HO0.out); rintro e w7 ⟨v141, rfl, ho0, hb, hkp⟩; refine ⟨_, rfl, ?_⟩; have n0_ := Aside0.mk (Kd.R_mono (ok' := fun k_ => (P0_ k_ ∨ w.heap.size ≤ k_)) ho0 (fun k_ hk_ => Or.elim hk_ (fun hs_ => (HO0.out.1 k_ (hs_).symm)) (fun hn_ => (.inr (Nat.le_trans (HW.zk1 (w := w) (fun k_ => P0_ k_)) hn_))))); have n1_ := Aside0.mk (Kept.then_ (S := (fun k_ => P0_ k_)) HW.zk hkp (fun k_ hs_ => (fun e_ => (HO0.out.1 k_ e_.symm)) hs_)); have n2_ := Aside0.mk (hb); clear HK; clear HB; clear HO0; have HO142 := n0_; have HK := n1_; have HB := n2_; clear n0_ n1_ n2_; (try clear hb); (try clear hkp); (try clear ho0)) | (at_builtin; refine HW.R_append_str (w0 := w0) w0.heap.size rfl (.tmp 10) _ 23 9 5 rfl Tryd.underlying23 Tryd.underlying9 info5 v141 t140 a1 (fun k_ => (P0_ k_ ∨ w.heap.size ≤ k_)) rfl rfl ?aO ?aF ?aB ?aS ?aL ?_; (case aB => exact HW.zb); (case aF => exact (fun k_ hk => (.inr (Nat.le_trans (HW.zk1 (w := w) (fun k_ => P0_ k_)) hk)))); (case aO => exact (HW.zR HO142.out)); (case aS => exact (below_size HW.zb)); (case aL => have := LMc4.out; omega); intro v144 w8 ho hb hg hat; rw [← Ny143.out] at ho; have n0_ := Aside0.mk (hb); have n1_ := Aside0.mk (Kept.of_grown (S := (fun k_ => P0_ k_)) hg HW.zk (fun k_ e_ => (HO142.out.1 k_ e_))); have n2_ := Aside0.mk (ho); clear HB; clear HK; clear HO142; have HB := n0_; have HK := n1_; have HO145 := n2_; clear n0_ n1_ n2_; clear ho hb hg hat) | ((with_reducible refine gate_builtin (b := .append) (xs := #[.tmp 13, .tmp 14]) rfl ?_); at_builtin; refine Kd.R_append (Kd.int .u8) (w0 := w0) w0.heap.size rfl (.tmp 13) (.tmp 14) 23 5 (.int .u8 0) 1 rfl Tryd.underlying23 info5 rfl (by decide) (by omega) v144 y143 0 [.int .u8 0] (fun k_ => (P0_ k_ ∨ w.heap.size ≤ k_)) (fun _ => False) rfl rfl ?aP (fun _ hk => hk.elim) ?aF ?aO ?aB ?aS ?aL ?_; (case aP => exact rfl); (case aB => exact HW.zb); (case aF => exact (fun k_ hk => (.inr (Nat.le_trans (HW.zk1 (w := w) (fun k_ => P0_ k_)) hk)))); (case aO => exact (HW.zR HO145.out)); (case aS => exact (below_size HW.zb)); (case aL => have := LMc5.out; omega); intro v147 w9 ho hb hg hat; rw [← Ny146.out] at ho; have n0_ := Aside0.mk (hb); have n1_ := Aside0.mk (Kept.of_grown (S := (fun k_ => P0_ k_)) hg HW.zk (fun k_ e_ => (HO145.out.1 k_ e_))); have n2_ := Aside0.mk (ho); clear HB; clear HK; clear HO145; have HB := n0_; have HK := n1_; have HO148 := n2_; clear n0_ n1_ n2_; clear ho hb hg hat))
    go_ret
    exact ⟨_, by first | rfl | (simp [errW_none, errW_some] <;> rfl) | (simp [*, errW_none, errW_some] <;> rfl), HW.zR HO148.out, HW.zb, HW.zk⟩

end Go.Proofs.YtlcgakpnpdkjjaaDoor.PBz
