/- Printed by a program of this session (a turned copy of the printer of the kit): contracts of functions of the translation, each with the Lean function that it computes. Conditions: as each theorem states them. -/
import Derived.Test.YthlpmeiihchdjaaPFlux0
import Derived.Test.YthlpmeiihchdjaaPFlux1
import Derived.Test.YthlpmeiihchdjaaPFlux3
namespace Go.Proofs.Ythlpmeiihchdjaa.PFlu
open Go.RowKit Go.Proofs.YthlpmeiihchdjaaW.PrintWords Go.Proofs.YthlpmeiihchdjaaW.PrintLast Go.Proofs.YthlpmeiihchdjaaW.PrintMore
attribute [local go_sem] max2_int min2_int max_two min_two max_three min_three max_four min_four   -- for this text's walks alone
set_option linter.unusedVariables false
set_option linter.unusedSimpArgs false

/-! ### spec_DocRight: function 52 -/
def spec_DocRight.f (a0_0 : Int) (a0_1 : ByteArray) (a0_2 : ByteArray) (a0_3 : Int) (a0_4 : Int) (a0_5 : Int) (l0_6 : List Int) (l0_7 : List (S98)) : Option (Bool) := (spec_docRight.f a0_0 a0_1 a0_2 a0_3 a0_4 a0_5 l0_6 l0_7 200).bind fun t113 => (some t113)
set_option maxHeartbeats 8000000 in
set_option maxRecDepth 100000 in
theorem spec_DocRight.calls (a0_0 : Int) (a0_1 : ByteArray) (a0_2 : ByteArray) (a0_3 : Int) (a0_4 : Int) (a0_5 : Int) (A0_6 : Option Addr) (c0_6 : Nat) (l0_6 : List Int) (A0_7 : Option Addr) (c0_7 : Nat) (l0_7 : List (S98)) (r : Bool) (w : World) (hr0_6 : Kd.C (Kd.int .u8) w A0_6 l0_6.length l0_6) (hc0_6 : l0_6.length ≤ c0_6) (hr0_7 : Kd.C k98 w A0_7 l0_7.length l0_7) (hc0_7 : l0_7.length ≤ c0_7) (h : spec_DocRight.f a0_0 a0_1 a0_2 a0_3 a0_4 a0_5 l0_6 l0_7 = some r) :
    Calls Try.prog 52 #[.agg #[.int .i64 a0_0, .string a0_1, .string a0_2, .int .i64 a0_3, .int .u64 a0_4, .int .u64 a0_5, .slice A0_6 l0_6.length c0_6, .slice A0_7 l0_7.length c0_7]] w fun e w' => e = .returned (.bool r) ∧ Below w.heap.size w w' := by
  have hu37 := Try.underlying37
  have HR0_6 := Aside0.mk hr0_6
  have HC0_6 := Aside0.mk hc0_6
  clear hr0_6 hc0_6
  have HR0_7 := Aside0.mk hr0_7
  have HC0_7 := Aside0.mk hc0_7
  clear hr0_7 hc0_7
  have HB := Aside0.mk (Below.refl w.heap.size w)
  have H : ((spec_docRight.f a0_0 a0_1 a0_2 a0_3 a0_4 a0_5 l0_6 l0_7 200).bind fun t113 => (some t113)) = some r := h
  clear h
  replace H := Option.bind_eq_some_iff.mp H
  obtain ⟨t113, A20, H⟩ := H
  replace H : (some t113) = some r := H
  have A2 := Aside0.mk A20
  clear A20
  as_aux_lemma =>
    obtain rfl := Option.some.inj H
    go_enter Try.func52, Try.ntmps52
    go_wp2_with (first | ((with_reducible refine gate_dst (N := 1) rfl ?_); refine box_event ?hg (N := 1) ?hd (cs := #[.int .i64 a0_0, .string a0_1, .string a0_2, .int .i64 a0_3, .int .u64 a0_4, .int .u64 a0_5, .slice A0_6 l0_6.length c0_6, .slice A0_7 l0_7.length c0_7]) (t := 37) ?hr ?_; (case hd => rfl); (case hg => rfl); (case hr => first | (go_simp; done) | (go_simp; rfl)); intro gb112 hg w3 hbox hb; have n0_ := Aside0.mk (below_step (by repeat (first | (with_reducible first | exact HB.out | apply below_alloc | apply pw_below_drewN | apply below_drew1) | exact HB.out)) hb); have n1_ := Aside0.mk (hbox); have n2_ := Aside0.mk ((by rw [hg]; exact (below_size (by repeat (first | (with_reducible first | exact HB.out | apply below_alloc | apply pw_below_drewN | apply below_drew1) | exact HB.out))) : w.heap.size ≤ gb112)); have n3_ := Aside0.mk ((by rw [hg]; exact (below_size (by repeat (first | (with_reducible first | exact HB.out | apply below_alloc | apply pw_below_drewN | apply below_drew1) | exact HB.out))) : w.heap.size ≤ gb112)); clear HB; have HB := n0_; have BK112 := n1_; have GW112 := n2_; have GE112 := n3_; clear n0_ n1_ n2_ n3_; clear hb hbox hg; have hcz4_0 : w3.cell? ⟨gb112, 0, none⟩ = some (.int .i64 a0_0) := (blk_cell BK112.out 0).trans rfl; have hcz4_1 : w3.cell? ⟨gb112, 1, none⟩ = some (.string a0_1) := (blk_cell BK112.out 1).trans rfl; have hcz4_2 : w3.cell? ⟨gb112, 2, none⟩ = some (.string a0_2) := (blk_cell BK112.out 2).trans rfl; have hcz4_3 : w3.cell? ⟨gb112, 3, none⟩ = some (.int .i64 a0_3) := (blk_cell BK112.out 3).trans rfl; have hcz4_4 : w3.cell? ⟨gb112, 4, none⟩ = some (.int .u64 a0_4) := (blk_cell BK112.out 4).trans rfl; have hcz4_5 : w3.cell? ⟨gb112, 5, none⟩ = some (.int .u64 a0_5) := (blk_cell BK112.out 5).trans rfl; have hcz4_6 : w3.cell? ⟨gb112, 6, none⟩ = some (.slice A0_6 l0_6.length c0_6) := (blk_cell BK112.out 6).trans rfl; have hcz4_7 : w3.cell? ⟨gb112, 7, none⟩ = some (.slice A0_7 l0_7.length c0_7) := (blk_cell BK112.out 7).trans rfl; have hfz4_0 := blk_frozen BK112.out 0; have hfz4_1 := blk_frozen BK112.out 1; have hfz4_2 := blk_frozen BK112.out 2; have hfz4_3 := blk_frozen BK112.out 3; have hfz4_4 := blk_frozen BK112.out 4; have hfz4_5 := blk_frozen BK112.out 5; have hfz4_6 := blk_frozen BK112.out 6; have hfz4_7 := blk_frozen BK112.out 7) | ((with_reducible refine gate_callee (f := 65) rfl ?_); refine goesL_ (some 4) rfl rfl Try.func65 (by kernel_rfl) rfl #[.agg #[.int .i64 a0_0, .string a0_1, .string a0_2, .int .i64 a0_3, .int .u64 a0_4, .int .u64 a0_5, .slice A0_6 l0_6.length c0_6, .slice A0_7 l0_7.length c0_7], .int .i64 200] rfl (by (try simp only [List.map_toArray, List.map_cons, List.map_nil]); first | done | rfl | (simp only [List.length_drop, List.length_take]; rfl)) ?_; (with_reducible refine (spec_docRight.calls a0_0 a0_1 a0_2 a0_3 a0_4 a0_5 _ _ l0_6 _ _ l0_7 200 t113 _ ?side1 ?side2 ?side3 ?side4 A2.out).mono ?_); (case side1 => repeat (first | exact (Kd.C_below HR0_6.out HB.out) | (with_reducible refine Kd.C_alloc ?_ _) | (with_reducible refine Kd.C_drewN ?_ _) | (with_reducible refine Kd.C_drew ?_))); (case side2 => exact HC0_6.out); (case side3 => repeat (first | exact (Kd.C_below HR0_7.out HB.out) | (with_reducible refine Kd.C_alloc ?_ _) | (with_reducible refine Kd.C_drewN ?_ _) | (with_reducible refine Kd.C_drew ?_))); (case side4 => exact HC0_7.out); rintro e w5 ⟨rfl, hb⟩; refine ⟨_, rfl, ?_⟩; have n0_ := Aside0.mk (blk_below (g := gb112) (o := .cells #[.int .i64 a0_0, .string a0_1, .string a0_2, .int .i64 a0_3, .int .u64 a0_4, .int .u64 a0_5, .slice A0_6 l0_6.length c0_6, .slice A0_7 l0_7.length c0_7] 37 (0, 0)) (by (with_reducible repeat (first | refine blk_drewN ?_ _ | refine blk_drew ?_ | refine blk_alloc ?_ _)); exact BK112.out) hb); have n1_ := Aside0.mk (below_step (by repeat (first | (with_reducible first | exact HB.out | apply below_alloc | apply pw_below_drewN | apply below_drew1 | refine below_set ?_ GE112.out) | exact HB.out)) hb); clear BK112; clear HB; have BK112 := n0_; have HB := n1_; clear n0_ n1_; (try clear hb); (try clear hb2); (try clear hk); (try clear hi)))
    go_ret
    exact ⟨by first | rfl | (simp [errW_none, errW_some] <;> rfl) | (simp [*, errW_none, errW_some] <;> rfl), by repeat (first | (with_reducible first | exact HB.out | apply below_alloc | apply pw_below_drewN | apply below_drew1 | refine below_set ?_ GE112.out) | exact HB.out)⟩

/-! ### laws_docBytes: function 53 -/
mutual
def laws_docBytes.l0 : Nat → Int → Int → Int → ByteArray → ByteArray → Int → Int → Int → List Int → List (S98) → Option (Int)
  | 0, _, _, _, _, _, _, _, _, _, _ => none
  | k + 1, x3, x4, x115000, x115001, x115002, x115003, x115004, x115005, x115006, x115007 => if x4 < (x115007.length : Int) then (if 0 ≤ x4 then ((laws_docBytes.f k ((rd_T98 x115007 x4).f1.f0) ((rd_T98 x115007 x4).f1.f1) ((rd_T98 x115007 x4).f1.f2) ((rd_T98 x115007 x4).f1.f3) ((rd_T98 x115007 x4).f1.f4) ((rd_T98 x115007 x4).f1.f5) ((rd_T98 x115007 x4).f1.f6) ((rd_T98 x115007 x4).f1.f7)).bind fun t117 => (laws_docBytes.l0 k (wrap64 ((wrap64 (x3 + (((rd_T98 x115007 x4).f0).size : Int))) + t117)) (wrap64 (x4 + 1)) x115000 x115001 x115002 x115003 x115004 x115005 x115006 x115007)) else (none)) else (some x3)
def laws_docBytes.f : Nat → Int → ByteArray → ByteArray → Int → Int → Int → List Int → List (S98) → Option (Int)
  | 0, _, _, _, _, _, _, _, _ => none
  | k + 1, a0_0, a0_1, a0_2, a0_3, a0_4, a0_5, l0_6, l0_7 => laws_docBytes.l0 k (wrap64 ((wrap64 ((a0_1.size : Int) + (a0_2.size : Int))) + (l0_6.length : Int))) 0 a0_0 a0_1 a0_2 a0_3 a0_4 a0_5 l0_6 l0_7
end
theorem laws_docBytes.mono_l : ∀ k, (∀ y0 y1 y2 y3 y4 y5 y6 y7, LeO (laws_docBytes.f k y0 y1 y2 y3 y4 y5 y6 y7) (laws_docBytes.f (k + 1) y0 y1 y2 y3 y4 y5 y6 y7)) ∧ (∀ y0 y1 y2 y3 y4 y5 y6 y7 y8 y9, LeO (laws_docBytes.l0 k y0 y1 y2 y3 y4 y5 y6 y7 y8 y9) (laws_docBytes.l0 (k + 1) y0 y1 y2 y3 y4 y5 y6 y7 y8 y9))
  | 0 => ⟨fun _ _ _ _ _ _ _ _ r h => by simp [laws_docBytes.f] at h, fun _ _ _ _ _ _ _ _ _ _ r h => by simp [laws_docBytes.l0] at h⟩
  | k + 1 => by
    obtain ⟨ih0, ih1⟩ := laws_docBytes.mono_l k
    refine ⟨?_, ?_⟩
    · intro y0 y1 y2 y3 y4 y5 y6 y7
      unfold laws_docBytes.f
      repeat' first
      | (with_reducible exact ih0 _ _ _ _ _ _ _ _)
      | (with_reducible exact ih1 _ _ _ _ _ _ _ _ _ _)
      | (with_reducible exact LeO.refl _)
      | (with_reducible exact LeO.none _)
      | (with_reducible refine LeO.ite ?_ ?_)
      | (with_reducible refine LeO.bind ?_ (fun _ => ?_))
      | exact ih0 _ _ _ _ _ _ _ _
      | exact ih1 _ _ _ _ _ _ _ _ _ _
      | exact LeO.none _
      | refine LeO.ite ?_ ?_
      | refine LeO.bind ?_ (fun _ => ?_)
    · intro y0 y1 y2 y3 y4 y5 y6 y7 y8 y9
      unfold laws_docBytes.l0
      repeat' first
      | (with_reducible exact ih0 _ _ _ _ _ _ _ _)
      | (with_reducible exact ih1 _ _ _ _ _ _ _ _ _ _)
      | (with_reducible exact LeO.refl _)
      | (with_reducible exact LeO.none _)
      | (with_reducible refine LeO.ite ?_ ?_)
      | (with_reducible refine LeO.bind ?_ (fun _ => ?_))
      | exact ih0 _ _ _ _ _ _ _ _
      | exact ih1 _ _ _ _ _ _ _ _ _ _
      | exact LeO.none _
      | refine LeO.ite ?_ ?_
      | refine LeO.bind ?_ (fun _ => ?_)
theorem laws_docBytes.mono : ∀ a0 a1 a2 a3 a4 a5 a6 a7 k, LeO (laws_docBytes.f k a0 a1 a2 a3 a4 a5 a6 a7) (laws_docBytes.f (k + 1) a0 a1 a2 a3 a4 a5 a6 a7) := by
  intro a0 a1 a2 a3 a4 a5 a6 a7 k
  obtain ⟨ih0, ih1⟩ := laws_docBytes.mono_l k
  exact ih0 a0 a1 a2 a3 a4 a5 a6 a7
def laws_docBytes.T5 : Bool × List (List Nat × List Nat) := (true, [([], []), ([], []), ([1], [1]), ([], []), ([2, 3], [2, 3]), ([4], [4]), ([5], [5]), ([6], [6]), ([0, 7], [0, 7]), ([], []), ([9], [9]), ([], []), ([10, 11], [10, 11]), ([12], [12]), ([13], [13]), ([14], [14]), ([8, 15], [8, 15]), ([16, 15, 0, 1, 2, 3, 4, 5, 6, 7, 8, 9, 10, 11, 12, 13, 14, 15, 16], [0, 16])])
def laws_docBytes.B5 : List Nat := [0, 0, 2, 0, 14, 30, 62, 126, 255, 0, 512, 0, 3584, 7680, 15872, 32256, 65535, 131071]
theorem laws_docBytes.tab5 : rtab .any (opsOf Try.f53 5) = laws_docBytes.T5 := by kernel_rfl
theorem laws_docBytes.bits5 : waitsOk laws_docBytes.T5.2 laws_docBytes.B5 = true := by kernel_rfl
set_option maxHeartbeats 8000000 in
set_option maxRecDepth 100000 in
theorem laws_docBytes.calls (k : Nat) : ∀ (a0_0 : Int) (a0_1 : ByteArray) (a0_2 : ByteArray) (a0_3 : Int) (a0_4 : Int) (a0_5 : Int) (A0_6 : Option Addr) (c0_6 : Nat) (l0_6 : List Int) (A0_7 : Option Addr) (c0_7 : Nat) (l0_7 : List (S98)) (r : Int) (w : World) (hr0_6 : Kd.C (Kd.int .u8) w A0_6 l0_6.length l0_6) (hc0_6 : l0_6.length ≤ c0_6) (hr0_7 : Kd.C k98 w A0_7 l0_7.length l0_7) (hc0_7 : l0_7.length ≤ c0_7) (h : laws_docBytes.f k a0_0 a0_1 a0_2 a0_3 a0_4 a0_5 l0_6 l0_7 = some r),
    Calls Try.prog 53 #[.agg #[.int .i64 a0_0, .string a0_1, .string a0_2, .int .i64 a0_3, .int .u64 a0_4, .int .u64 a0_5, .slice A0_6 l0_6.length c0_6, .slice A0_7 l0_7.length c0_7]] w fun e w' => e = .returned (.int .i64 r) ∧ Below w.heap.size w w' := by
  induction k using Nat.strongRecOn with
  | _ k ih =>
  intro a0_0 a0_1 a0_2 a0_3 a0_4 a0_5 A0_6 c0_6 l0_6 A0_7 c0_7 l0_7 r w hr0_6 hc0_6 hr0_7 hc0_7 h
  cases k with
  | zero => exact absurd h (by simp [laws_docBytes.f])
  | succ k =>
  simp only [laws_docBytes.f] at h
  have hu37 := Try.underlying37
  have HR0_6 := Aside0.mk hr0_6
  have HC0_6 := Aside0.mk hc0_6
  clear hr0_6 hc0_6
  have HR0_7 := Aside0.mk hr0_7
  have HC0_7 := Aside0.mk hc0_7
  clear hr0_7 hc0_7
  have HB := Aside0.mk (Below.refl w.heap.size w)
  have H : (laws_docBytes.l0 k (wrap64 ((wrap64 ((a0_1.size : Int) + (a0_2.size : Int))) + (l0_6.length : Int))) 0 a0_0 a0_1 a0_2 a0_3 a0_4 a0_5 l0_6 l0_7) = some r := h
  clear h
  have H' := Aside0.mk H
  clear H
  go_enter Try.func53, Try.ntmps53
  go_wp2_with (first | ((with_reducible refine gate_dst (N := 1) rfl ?_); refine box_event ?hg (N := 1) ?hd (cs := #[.int .i64 a0_0, .string a0_1, .string a0_2, .int .i64 a0_3, .int .u64 a0_4, .int .u64 a0_5, .slice A0_6 l0_6.length c0_6, .slice A0_7 l0_7.length c0_7]) (t := 37) ?hr ?_; (case hd => rfl); (case hg => rfl); (case hr => first | (go_simp; done) | (go_simp; rfl)); intro gb114 hg w2 hbox hb; have n0_ := Aside0.mk (below_step (by repeat (first | (with_reducible first | exact HB.out | apply below_alloc | apply pw_below_drewN | apply below_drew1) | exact HB.out)) hb); have n1_ := Aside0.mk (hbox); have n2_ := Aside0.mk ((by rw [hg]; exact (below_size (by repeat (first | (with_reducible first | exact HB.out | apply below_alloc | apply pw_below_drewN | apply below_drew1) | exact HB.out))) : w.heap.size ≤ gb114)); have n3_ := Aside0.mk ((by rw [hg]; exact (below_size (by repeat (first | (with_reducible first | exact HB.out | apply below_alloc | apply pw_below_drewN | apply below_drew1) | exact HB.out))) : w.heap.size ≤ gb114)); clear HB; have HB := n0_; have BK114 := n1_; have GW114 := n2_; have GE114 := n3_; clear n0_ n1_ n2_ n3_; clear hb hbox hg; have hcz3_0 : w2.cell? ⟨gb114, 0, none⟩ = some (.int .i64 a0_0) := (blk_cell BK114.out 0).trans rfl; have hcz3_1 : w2.cell? ⟨gb114, 1, none⟩ = some (.string a0_1) := (blk_cell BK114.out 1).trans rfl; have hcz3_2 : w2.cell? ⟨gb114, 2, none⟩ = some (.string a0_2) := (blk_cell BK114.out 2).trans rfl; have hcz3_3 : w2.cell? ⟨gb114, 3, none⟩ = some (.int .i64 a0_3) := (blk_cell BK114.out 3).trans rfl; have hcz3_4 : w2.cell? ⟨gb114, 4, none⟩ = some (.int .u64 a0_4) := (blk_cell BK114.out 4).trans rfl; have hcz3_5 : w2.cell? ⟨gb114, 5, none⟩ = some (.int .u64 a0_5) := (blk_cell BK114.out 5).trans rfl; have hcz3_6 : w2.cell? ⟨gb114, 6, none⟩ = some (.slice A0_6 l0_6.length c0_6) := (blk_cell BK114.out 6).trans rfl; have hcz3_7 : w2.cell? ⟨gb114, 7, none⟩ = some (.slice A0_7 l0_7.length c0_7) := (blk_cell BK114.out 7).trans rfl; have hfz3_0 := blk_frozen BK114.out 0; have hfz3_1 := blk_frozen BK114.out 1; have hfz3_2 := blk_frozen BK114.out 2; have hfz3_3 := blk_frozen BK114.out 3; have hfz3_4 := blk_frozen BK114.out 4; have hfz3_5 := blk_frozen BK114.out 5; have hfz3_6 := blk_frozen BK114.out 6; have hfz3_7 := blk_frozen BK114.out 7))
  go_loopg [3, 4] k (fun kq v3 v4 w' => ∃ (x3_1 : Int) (x4_1 : Int), v3 = .int .i64 x3_1 ∧ v4 = .int .i64 x4_1 ∧ Aside0 (laws_docBytes.l0 kq x3_1 x4_1 a0_0 a0_1 a0_2 a0_3 a0_4 a0_5 l0_6 l0_7 = some r) ∧ Aside0 (kq ≤ k) ∧ Aside0 (w'.heap[gb114]? = some (.cells #[.int .i64 a0_0, .string a0_1, .string a0_2, .int .i64 a0_3, .int .u64 a0_4, .int .u64 a0_5, (.slice A0_6 l0_6.length c0_6), (.slice A0_7 l0_7.length c0_7)] 37 (0, 0))) ∧ Aside0 (Below w.heap.size w w'))
  case atStart => exact ⟨(wrap64 ((wrap64 ((a0_1.size : Int) + (a0_2.size : Int))) + (l0_6.length : Int))), (0), (by first | rfl | (simp; done) | (simp [*]; done)), (by first | rfl | (simp; done) | (simp [*]; done)), H', ⟨Nat.le_refl _⟩, ⟨by (with_reducible repeat (first | refine blk_drewN ?_ _ | refine blk_drew ?_ | refine blk_alloc ?_ _)); exact BK114.out⟩, ⟨by repeat (first | (with_reducible first | exact HB.out | apply below_alloc | apply pw_below_drewN | apply below_drew1 | refine below_set ?_ GE114.out) | exact HB.out)⟩⟩
  case round =>
    clear H'
    try clear p2
    try clear hcz3_0
    try clear hcz3_1
    try clear hcz3_2
    try clear hcz3_3
    try clear hcz3_4
    try clear hcz3_5
    try clear hcz3_6
    try clear hcz3_7
    try clear hfz3_0
    try clear hfz3_1
    try clear hfz3_2
    try clear hfz3_3
    try clear hfz3_4
    try clear hfz3_5
    try clear hfz3_6
    try clear hfz3_7
    obtain ⟨x3_1, x4_1, rfl, rfl, HA, HK1, BK114, HB⟩ := hrel
    cases gk with
    | zero => exact absurd HA.out (by simp [laws_docBytes.l0])
    | succ k1 =>
      have H := HA.out
      clear HA
      simp only [laws_docBytes.l0] at H
      by_cases c4 : x4_1 < (l0_7.length : Int)
      · rw [if_pos c4] at H
        have c4b0 : decide (x4_1 < (l0_7.length : Int)) = true := decide_eq_true c4
        clear c4
        by_cases c5 : 0 ≤ x4_1
        · rw [if_pos c5] at H
          have c5b0 : decide (0 ≤ x4_1) = true := decide_eq_true c5
          clear c5
          replace H := Option.bind_eq_some_iff.mp H
          obtain ⟨t117, A60, H⟩ := H
          replace H : (laws_docBytes.l0 k1 (wrap64 ((wrap64 (x3_1 + (((rd_T98 l0_7 x4_1).f0).size : Int))) + t117)) (wrap64 (x4_1 + 1)) a0_0 a0_1 a0_2 a0_3 a0_4 a0_5 l0_6 l0_7) = some r := H
          have A6 := Aside0.mk A60
          clear A60
          as_aux_lemma =>
            have H' := Aside0.mk H
            clear H
            have hcz7_0 : wr.cell? ⟨gb114, 0, none⟩ = some (.int .i64 a0_0) := (blk_cell BK114.out 0).trans rfl
            have hcz7_1 : wr.cell? ⟨gb114, 1, none⟩ = some (.string a0_1) := (blk_cell BK114.out 1).trans rfl
            have hcz7_2 : wr.cell? ⟨gb114, 2, none⟩ = some (.string a0_2) := (blk_cell BK114.out 2).trans rfl
            have hcz7_3 : wr.cell? ⟨gb114, 3, none⟩ = some (.int .i64 a0_3) := (blk_cell BK114.out 3).trans rfl
            have hcz7_4 : wr.cell? ⟨gb114, 4, none⟩ = some (.int .u64 a0_4) := (blk_cell BK114.out 4).trans rfl
            have hcz7_5 : wr.cell? ⟨gb114, 5, none⟩ = some (.int .u64 a0_5) := (blk_cell BK114.out 5).trans rfl
            have hcz7_6 : wr.cell? ⟨gb114, 6, none⟩ = some (.slice A0_6 l0_6.length c0_6) := (blk_cell BK114.out 6).trans rfl
            have hcz7_7 : wr.cell? ⟨gb114, 7, none⟩ = some (.slice A0_7 l0_7.length c0_7) := (blk_cell BK114.out 7).trans rfl
            have hfz7_0 := blk_frozen BK114.out 0
            have hfz7_1 := blk_frozen BK114.out 1
            have hfz7_2 := blk_frozen BK114.out 2
            have hfz7_3 := blk_frozen BK114.out 3
            have hfz7_4 := blk_frozen BK114.out 4
            have hfz7_5 := blk_frozen BK114.out 5
            have hfz7_6 := blk_frozen BK114.out 6
            have hfz7_7 := blk_frozen BK114.out 7
            try go_wp2
            have n0_ := Aside0.mk (blk_drew BK114.out)
            have n1_ := Aside0.mk (below_drew1 HB.out)
            clear BK114
            clear HB
            have BK114 := n0_
            have HB := n1_
            clear n0_ n1_
            have p115 : 0 ≤ (x4_1 : Int) := of_decide_eq_true (by first | (with_reducible assumption) | assumption)
            have q115 : x4_1 < (l0_7.length : Int) := of_decide_eq_true (by first | (with_reducible assumption) | assumption)
            obtain ⟨ad115, A115_7, c115_7, A115_8, c115_8, e115, hx115_0, hx115_1, hx115_2, hx115_3, hx115_4, hx115_5, hx115_6, hx115_7, hx115_8, hl115_7, hi115_7, hl115_8, hi115_8⟩ := at_T98 HR0_7.out x4_1 p115 q115
            have hw115_8 := hx115_8
            have hw115_7 := hx115_7
            have hw115_6 := hx115_6
            have hw115_5 := hx115_5
            have hw115_4 := hx115_4
            have hw115_3 := hx115_3
            have hw115_2 := hx115_2
            have hw115_1 := hx115_1
            have hw115_0 := hx115_0
            cases e115
            replace hx115_0 := (HB.out.cell (World.block_lt_of_cell? w _ hx115_0)).trans hx115_0
            replace hx115_1 := (HB.out.cell (World.block_lt_of_cell? w _ hx115_1)).trans hx115_1
            replace hx115_2 := (HB.out.cell (World.block_lt_of_cell? w _ hx115_2)).trans hx115_2
            replace hx115_3 := (HB.out.cell (World.block_lt_of_cell? w _ hx115_3)).trans hx115_3
            replace hx115_4 := (HB.out.cell (World.block_lt_of_cell? w _ hx115_4)).trans hx115_4
            replace hx115_5 := (HB.out.cell (World.block_lt_of_cell? w _ hx115_5)).trans hx115_5
            replace hx115_6 := (HB.out.cell (World.block_lt_of_cell? w _ hx115_6)).trans hx115_6
            replace hx115_7 := (HB.out.cell (World.block_lt_of_cell? w _ hx115_7)).trans hx115_7
            replace hx115_8 := (HB.out.cell (World.block_lt_of_cell? w _ hx115_8)).trans hx115_8
            have HR115_7 := Aside0.mk hi115_7
            have HC115_7 := Aside0.mk hl115_7
            clear hi115_7 hl115_7
            have HR115_8 := Aside0.mk hi115_8
            have HC115_8 := Aside0.mk hl115_8
            clear hi115_8 hl115_8
            replace p115 := eq_true p115
            replace q115 := eq_true q115
            have p116 : 0 ≤ (x4_1 : Int) := of_decide_eq_true (by first | (with_reducible assumption) | assumption)
            have q116 : x4_1 < (l0_7.length : Int) := of_decide_eq_true (by first | (with_reducible assumption) | assumption)
            obtain ⟨ad116, A116_7, c116_7, A116_8, c116_8, e116, hx116_0, hx116_1, hx116_2, hx116_3, hx116_4, hx116_5, hx116_6, hx116_7, hx116_8, hl116_7, hi116_7, hl116_8, hi116_8⟩ := at_T98 HR0_7.out x4_1 p116 q116
            have hw116_8 := hx116_8
            have hw116_7 := hx116_7
            have hw116_6 := hx116_6
            have hw116_5 := hx116_5
            have hw116_4 := hx116_4
            have hw116_3 := hx116_3
            have hw116_2 := hx116_2
            have hw116_1 := hx116_1
            have hw116_0 := hx116_0
            obtain rfl : ad115 = ad116 := (by injection e116)
            replace hx116_0 := (HB.out.cell (World.block_lt_of_cell? w _ hx116_0)).trans hx116_0
            replace hx116_1 := (HB.out.cell (World.block_lt_of_cell? w _ hx116_1)).trans hx116_1
            replace hx116_2 := (HB.out.cell (World.block_lt_of_cell? w _ hx116_2)).trans hx116_2
            replace hx116_3 := (HB.out.cell (World.block_lt_of_cell? w _ hx116_3)).trans hx116_3
            replace hx116_4 := (HB.out.cell (World.block_lt_of_cell? w _ hx116_4)).trans hx116_4
            replace hx116_5 := (HB.out.cell (World.block_lt_of_cell? w _ hx116_5)).trans hx116_5
            replace hx116_6 := (HB.out.cell (World.block_lt_of_cell? w _ hx116_6)).trans hx116_6
            replace hx116_7 := (HB.out.cell (World.block_lt_of_cell? w _ hx116_7)).trans hx116_7
            replace hx116_8 := (HB.out.cell (World.block_lt_of_cell? w _ hx116_8)).trans hx116_8
            have HR116_7 := Aside0.mk hi116_7
            have HC116_7 := Aside0.mk hl116_7
            clear hi116_7 hl116_7
            have HR116_8 := Aside0.mk hi116_8
            have HC116_8 := Aside0.mk hl116_8
            clear hi116_8 hl116_8
            replace p116 := eq_true p116
            replace q116 := eq_true q116
            have ea_ := Option.some.inj (hx115_7.symm.trans hx116_7)
            injection ea_ with ea_ en_ ec_
            subst ea_
            subst ec_
            clear en_
            have ea_ := Option.some.inj (hx115_8.symm.trans hx116_8)
            injection ea_ with ea_ en_ ec_
            subst ea_
            subst ec_
            clear en_
            refine start_ (n := 18) (S := fun w' => w'.cell? ⟨gb114, 0, none⟩ = some (.int .i64 a0_0) ∧ w'.cell? ⟨gb114, 1, none⟩ = some (.string a0_1) ∧ w'.cell? ⟨gb114, 2, none⟩ = some (.string a0_2) ∧ w'.cell? ⟨gb114, 3, none⟩ = some (.int .i64 a0_3) ∧ w'.cell? ⟨gb114, 4, none⟩ = some (.int .u64 a0_4) ∧ w'.cell? ⟨gb114, 5, none⟩ = some (.int .u64 a0_5) ∧ w'.cell? ⟨gb114, 6, none⟩ = some (.slice A0_6 l0_6.length c0_6) ∧ w'.cell? ⟨gb114, 7, none⟩ = some (.slice (some ad115) l0_7.length c0_7) ∧ w'.cell? (ad115.add ((x4_1).toNat * 9)) = some (.string ((rd_T98 l0_7 x4_1).f0)) ∧ w'.cell? ⟨(ad115.add ((x4_1).toNat * 9)).block, (ad115.add ((x4_1).toNat * 9)).off + 1, none⟩ = some (.int .i64 ((rd_T98 l0_7 x4_1).f1.f0)) ∧ w'.cell? ⟨(ad115.add ((x4_1).toNat * 9)).block, (ad115.add ((x4_1).toNat * 9)).off + 2, none⟩ = some (.string ((rd_T98 l0_7 x4_1).f1.f1)) ∧ w'.cell? ⟨(ad115.add ((x4_1).toNat * 9)).block, (ad115.add ((x4_1).toNat * 9)).off + 3, none⟩ = some (.string ((rd_T98 l0_7 x4_1).f1.f2)) ∧ w'.cell? ⟨(ad115.add ((x4_1).toNat * 9)).block, (ad115.add ((x4_1).toNat * 9)).off + 4, none⟩ = some (.int .i64 ((rd_T98 l0_7 x4_1).f1.f3)) ∧ w'.cell? ⟨(ad115.add ((x4_1).toNat * 9)).block, (ad115.add ((x4_1).toNat * 9)).off + 5, none⟩ = some (.int .u64 ((rd_T98 l0_7 x4_1).f1.f4)) ∧ w'.cell? ⟨(ad115.add ((x4_1).toNat * 9)).block, (ad115.add ((x4_1).toNat * 9)).off + 6, none⟩ = some (.int .u64 ((rd_T98 l0_7 x4_1).f1.f5)) ∧ w'.cell? ⟨(ad115.add ((x4_1).toNat * 9)).block, (ad115.add ((x4_1).toNat * 9)).off + 7, none⟩ = some (.slice A115_7 ((rd_T98 l0_7 x4_1).f1.f6).length c115_7) ∧ w'.cell? ⟨(ad115.add ((x4_1).toNat * 9)).block, (ad115.add ((x4_1).toNat * 9)).off + 8, none⟩ = some (.slice A115_8 ((rd_T98 l0_7 x4_1).f1.f7).length c115_8) ∧ w'.cell? (ad115.add ((x4_1).toNat * 9)) = some (.string ((rd_T98 l0_7 x4_1).f0)) ∧ w'.cell? ⟨(ad115.add ((x4_1).toNat * 9)).block, (ad115.add ((x4_1).toNat * 9)).off + 1, none⟩ = some (.int .i64 ((rd_T98 l0_7 x4_1).f1.f0)) ∧ w'.cell? ⟨(ad115.add ((x4_1).toNat * 9)).block, (ad115.add ((x4_1).toNat * 9)).off + 2, none⟩ = some (.string ((rd_T98 l0_7 x4_1).f1.f1)) ∧ w'.cell? ⟨(ad115.add ((x4_1).toNat * 9)).block, (ad115.add ((x4_1).toNat * 9)).off + 3, none⟩ = some (.string ((rd_T98 l0_7 x4_1).f1.f2)) ∧ w'.cell? ⟨(ad115.add ((x4_1).toNat * 9)).block, (ad115.add ((x4_1).toNat * 9)).off + 4, none⟩ = some (.int .i64 ((rd_T98 l0_7 x4_1).f1.f3)) ∧ w'.cell? ⟨(ad115.add ((x4_1).toNat * 9)).block, (ad115.add ((x4_1).toNat * 9)).off + 5, none⟩ = some (.int .u64 ((rd_T98 l0_7 x4_1).f1.f4)) ∧ w'.cell? ⟨(ad115.add ((x4_1).toNat * 9)).block, (ad115.add ((x4_1).toNat * 9)).off + 6, none⟩ = some (.int .u64 ((rd_T98 l0_7 x4_1).f1.f5)) ∧ w'.cell? ⟨(ad115.add ((x4_1).toNat * 9)).block, (ad115.add ((x4_1).toNat * 9)).off + 7, none⟩ = some (.slice A115_7 ((rd_T98 l0_7 x4_1).f1.f6).length c115_7) ∧ w'.cell? ⟨(ad115.add ((x4_1).toNat * 9)).block, (ad115.add ((x4_1).toNat * 9)).off + 8, none⟩ = some (.slice A115_8 ((rd_T98 l0_7 x4_1).f1.f7).length c115_8)) (ds := []) #[false, false, false, false, false, false, false, false, false, false, false, false, false, false, false, false, false, false] (by kernel_rfl) rfl rfl ⟨(blk_cell BK114.out 0).trans rfl, (blk_cell BK114.out 1).trans rfl, (blk_cell BK114.out 2).trans rfl, (blk_cell BK114.out 3).trans rfl, (blk_cell BK114.out 4).trans rfl, (blk_cell BK114.out 5).trans rfl, (blk_cell BK114.out 6).trans rfl, (blk_cell BK114.out 7).trans rfl, ((HB.out.cell (World.block_lt_of_cell? w _ hw115_0)).trans hw115_0), ((HB.out.cell (World.block_lt_of_cell? w _ hw115_1)).trans hw115_1), ((HB.out.cell (World.block_lt_of_cell? w _ hw115_2)).trans hw115_2), ((HB.out.cell (World.block_lt_of_cell? w _ hw115_3)).trans hw115_3), ((HB.out.cell (World.block_lt_of_cell? w _ hw115_4)).trans hw115_4), ((HB.out.cell (World.block_lt_of_cell? w _ hw115_5)).trans hw115_5), ((HB.out.cell (World.block_lt_of_cell? w _ hw115_6)).trans hw115_6), ((HB.out.cell (World.block_lt_of_cell? w _ hw115_7)).trans hw115_7), ((HB.out.cell (World.block_lt_of_cell? w _ hw115_8)).trans hw115_8), ((HB.out.cell (World.block_lt_of_cell? w _ hw116_0)).trans hw116_0), ((HB.out.cell (World.block_lt_of_cell? w _ hw116_1)).trans hw116_1), ((HB.out.cell (World.block_lt_of_cell? w _ hw116_2)).trans hw116_2), ((HB.out.cell (World.block_lt_of_cell? w _ hw116_3)).trans hw116_3), ((HB.out.cell (World.block_lt_of_cell? w _ hw116_4)).trans hw116_4), ((HB.out.cell (World.block_lt_of_cell? w _ hw116_5)).trans hw116_5), ((HB.out.cell (World.block_lt_of_cell? w _ hw116_6)).trans hw116_6), ((HB.out.cell (World.block_lt_of_cell? w _ hw116_7)).trans hw116_7), ((HB.out.cell (World.block_lt_of_cell? w _ hw116_8)).trans hw116_8)⟩ (fun hHeld => ?_); refine with_tabW laws_docBytes.tab5 laws_docBytes.bits5 (fun HT_ HW_ => ?_)
            generalize wr.drew = w8 at BK114 HB HR115_7 HR115_8 HR116_7 HR116_8 hx115_0 hx115_1 hx115_2 hx115_3 hx115_4 hx115_5 hx115_6 hx115_7 hx115_8 hx116_0 hx116_1 hx116_2 hx116_3 hx116_4 hx116_5 hx116_6 hx116_7 hx116_8 hHeld ⊢
            refine pure_ (i := 0) (N := some 23) (v := ?_) (a' := ?_) #[true, false, false, false, false, false, false, false, false, false, false, false, false, false, false, false, false, false] rfl rfl (any_of HT_.out (by kernel_rfl)) (fun _ _ _ h => h) (Or.inl ⟨by rfl, ?_⟩) ?_ ?_
            rotate_left
            · intro w'
              go_simp
              with_reducible rfl
            rotate_left
            · simp only [Act.put, List.setIfInBounds_toArray, List.set_cons_zero, List.set_cons_succ, i64_w, i32_w]
              rfl
            refine pure_ (i := 1) (N := some 24) (v := ?_) (a' := ?_) #[true, true, false, false, false, false, false, false, false, false, false, false, false, false, false, false, false, false] rfl rfl (any_of HT_.out (by kernel_rfl)) (fun _ _ _ h => h) (Or.inl ⟨by rfl, ?_⟩) ?_ ?_
            rotate_left
            · intro w'
              go_simp
              with_reducible rfl
            rotate_left
            · simp only [Act.put, List.setIfInBounds_toArray, List.set_cons_zero, List.set_cons_succ, i64_w, i32_w]
              rfl
            refine pure_ (i := 3) (N := some 26) (v := ?_) (a' := ?_) #[true, true, false, true, false, false, false, false, false, false, false, false, false, false, false, false, false, false] rfl rfl (any_of HT_.out (by kernel_rfl)) (fun _ _ _ h => h) (Or.inl ⟨by rfl, ?_⟩) ?_ ?_
            rotate_left
            · intro w'
              go_simp
              with_reducible rfl
            rotate_left
            · simp only [Act.put, List.setIfInBounds_toArray, List.set_cons_zero, List.set_cons_succ, i64_w, i32_w]
              rfl
            refine pure_ (i := 9) (N := some 32) (v := ?_) (a' := ?_) #[true, true, false, true, false, false, false, false, false, true, false, false, false, false, false, false, false, false] rfl rfl (any_of HT_.out (by kernel_rfl)) (fun _ _ _ h => h) (Or.inl ⟨by rfl, ?_⟩) ?_ ?_
            rotate_left
            · intro w'
              go_simp
              with_reducible rfl
            rotate_left
            · simp only [Act.put, List.setIfInBounds_toArray, List.set_cons_zero, List.set_cons_succ, i64_w, i32_w]
              rfl
            refine pure_ (i := 11) (N := some 34) (v := ?_) (a' := ?_) #[true, true, false, true, false, false, false, false, false, true, false, true, false, false, false, false, false, false] rfl rfl (any_of HT_.out (by kernel_rfl)) (fun _ _ _ h => h) (Or.inl ⟨by rfl, ?_⟩) ?_ ?_
            rotate_left
            · intro w'
              go_simp
              with_reducible rfl
            rotate_left
            · simp only [Act.put, List.setIfInBounds_toArray, List.set_cons_zero, List.set_cons_succ, i64_w, i32_w]
              rfl
            refine take_ (i := 2) (N := some 25) (v := ?_) (a' := ?_) #[true, true, true, true, false, false, false, false, false, true, false, true, false, false, false, false, false, false] rfl rfl (take_ofW HT_.out HW_.out (by kernel_rfl)) (fun _ _ _ h => h) (Or.inl ⟨by rfl, ?_⟩) hHeld ?_ ?_
            rotate_left
            · rintro w' ⟨s0, s1, s2, s3, s4, s5, s6, s7, s8, s9, s10, s11, s12, s13, s14, s15, s16, s17, s18, s19, s20, s21, s22, s23, s24, s25⟩
              go_simp
              with_reducible rfl
            rotate_left
            · simp only [Act.put, List.setIfInBounds_toArray, List.set_cons_zero, List.set_cons_succ, i64_w, i32_w]
              rfl
            refine pure_ (i := 4) (N := some 27) (v := ?_) (a' := ?_) #[true, true, true, true, true, false, false, false, false, true, false, true, false, false, false, false, false, false] rfl rfl (any_of HT_.out (by kernel_rfl)) (fun _ _ _ h => h) (Or.inl ⟨by rfl, ?_⟩) ?_ ?_
            rotate_left
            · intro w'
              go_simp
              with_reducible rfl
            rotate_left
            · simp only [Act.put, List.setIfInBounds_toArray, List.set_cons_zero, List.set_cons_succ, i64_w, i32_w]
              rfl
            refine pure_ (i := 5) (N := some 28) (v := ?_) (a' := ?_) #[true, true, true, true, true, true, false, false, false, true, false, true, false, false, false, false, false, false] rfl rfl (any_of HT_.out (by kernel_rfl)) (fun _ _ _ h => h) (Or.inl ⟨by rfl, ?_⟩) ?_ ?_
            rotate_left
            · intro w'
              go_simp
              with_reducible rfl
            rotate_left
            · simp only [Act.put, List.setIfInBounds_toArray, List.set_cons_zero, List.set_cons_succ, i64_w, i32_w]
              rfl
            refine take_ (i := 6) (N := some 29) (v := ?_) (a' := ?_) #[true, true, true, true, true, true, true, false, false, true, false, true, false, false, false, false, false, false] rfl rfl (take_ofW HT_.out HW_.out (by kernel_rfl)) (fun _ _ _ h => h) (Or.inl ⟨by rfl, ?_⟩) hHeld ?_ ?_
            rotate_left
            · rintro w' ⟨s0, s1, s2, s3, s4, s5, s6, s7, s8, s9, s10, s11, s12, s13, s14, s15, s16, s17, s18, s19, s20, s21, s22, s23, s24, s25⟩
              go_simp
              with_reducible rfl
            rotate_left
            · simp only [Act.put, List.setIfInBounds_toArray, List.set_cons_zero, List.set_cons_succ, i64_w, i32_w]
              rfl
            refine pure_ (i := 7) (N := some 30) (v := ?_) (a' := ?_) #[true, true, true, true, true, true, true, true, false, true, false, true, false, false, false, false, false, false] rfl rfl (any_of HT_.out (by kernel_rfl)) (fun _ _ _ h => h) (Or.inl ⟨by rfl, ?_⟩) ?_ ?_
            rotate_left
            · intro w'
              go_simp
              with_reducible rfl
            rotate_left
            · simp only [Act.put, List.setIfInBounds_toArray, List.set_cons_zero, List.set_cons_succ, i64_w, i32_w]
              rfl
            refine pure_ (i := 8) (N := some 31) (v := ?_) (a' := ?_) #[true, true, true, true, true, true, true, true, true, true, false, true, false, false, false, false, false, false] rfl rfl (any_of HT_.out (by kernel_rfl)) (fun _ _ _ h => h) (Or.inl ⟨by rfl, ?_⟩) ?_ ?_
            rotate_left
            · intro w'
              go_simp
              with_reducible rfl
            rotate_left
            · simp only [Act.put, List.setIfInBounds_toArray, List.set_cons_zero, List.set_cons_succ, i64_w, i32_w]
              rfl
            refine take_ (i := 10) (N := some 33) (v := ?_) (a' := ?_) #[true, true, true, true, true, true, true, true, true, true, true, true, false, false, false, false, false, false] rfl rfl (take_ofW HT_.out HW_.out (by kernel_rfl)) (fun _ _ _ h => h) (Or.inl ⟨by rfl, ?_⟩) hHeld ?_ ?_
            rotate_left
            · rintro w' ⟨s0, s1, s2, s3, s4, s5, s6, s7, s8, s9, s10, s11, s12, s13, s14, s15, s16, s17, s18, s19, s20, s21, s22, s23, s24, s25⟩
              go_simp
              with_reducible rfl
            rotate_left
            · simp only [Act.put, List.setIfInBounds_toArray, List.set_cons_zero, List.set_cons_succ, i64_w, i32_w]
              rfl
            refine pure_ (i := 12) (N := some 35) (v := ?_) (a' := ?_) #[true, true, true, true, true, true, true, true, true, true, true, true, true, false, false, false, false, false] rfl rfl (any_of HT_.out (by kernel_rfl)) (fun _ _ _ h => h) (Or.inl ⟨by rfl, ?_⟩) ?_ ?_
            rotate_left
            · intro w'
              go_simp
              with_reducible rfl
            rotate_left
            · simp only [Act.put, List.setIfInBounds_toArray, List.set_cons_zero, List.set_cons_succ, i64_w, i32_w]
              rfl
            refine pure_ (i := 13) (N := some 36) (v := ?_) (a' := ?_) #[true, true, true, true, true, true, true, true, true, true, true, true, true, true, false, false, false, false] rfl rfl (any_of HT_.out (by kernel_rfl)) (fun _ _ _ h => h) (Or.inl ⟨by rfl, ?_⟩) ?_ ?_
            rotate_left
            · intro w'
              go_simp
              with_reducible rfl
            rotate_left
            · simp only [Act.put, List.setIfInBounds_toArray, List.set_cons_zero, List.set_cons_succ, i64_w, i32_w]
              rfl
            refine take_ (i := 14) (N := some 37) (v := ?_) (a' := ?_) #[true, true, true, true, true, true, true, true, true, true, true, true, true, true, true, false, false, false] rfl rfl (take_ofW HT_.out HW_.out (by kernel_rfl)) (fun _ _ _ h => h) (Or.inl ⟨by rfl, ?_⟩) hHeld ?_ ?_
            rotate_left
            · rintro w' ⟨s0, s1, s2, s3, s4, s5, s6, s7, s8, s9, s10, s11, s12, s13, s14, s15, s16, s17, s18, s19, s20, s21, s22, s23, s24, s25⟩
              go_simp
              with_reducible rfl
            rotate_left
            · simp only [Act.put, List.setIfInBounds_toArray, List.set_cons_zero, List.set_cons_succ, i64_w, i32_w]
              rfl
            refine one_ (i := 15) (N := some 38) #[true, true, true, true, true, true, true, true, true, true, true, true, true, true, true, true, false, false] rfl rfl (one_of HT_.out (by kernel_rfl)) (by decide) (fun K hK => ?_)
            refine goes_ Try.func53 (by kernel_rfl) rfl #[.agg #[.int .i64 ((rd_T98 l0_7 x4_1).f1.f0), .string ((rd_T98 l0_7 x4_1).f1.f1), .string ((rd_T98 l0_7 x4_1).f1.f2), .int .i64 ((rd_T98 l0_7 x4_1).f1.f3), .int .u64 ((rd_T98 l0_7 x4_1).f1.f4), .int .u64 ((rd_T98 l0_7 x4_1).f1.f5), .slice A115_7 ((rd_T98 l0_7 x4_1).f1.f6).length c115_7, .slice A115_8 ((rd_T98 l0_7 x4_1).f1.f7).length c115_8]] (by rfl) rfl rfl (by (try simp only [List.map_toArray, List.map_cons, List.map_nil]); first | done | rfl | (simp only [List.length_drop, List.length_take]; rfl)) ?_
            with_reducible refine (ih k1 (by have := HK1.out; omega) ((rd_T98 l0_7 x4_1).f1.f0) ((rd_T98 l0_7 x4_1).f1.f1) ((rd_T98 l0_7 x4_1).f1.f2) ((rd_T98 l0_7 x4_1).f1.f3) ((rd_T98 l0_7 x4_1).f1.f4) ((rd_T98 l0_7 x4_1).f1.f5) _ _ ((rd_T98 l0_7 x4_1).f1.f6) _ _ ((rd_T98 l0_7 x4_1).f1.f7) t117 _ ?side1 ?side2 ?side3 ?side4 A6.out).mono ?_
            (case side1 => repeat (first | exact (Kd.C_below HR116_7.out HB.out) | (with_reducible refine Kd.C_alloc ?_ _) | (with_reducible refine Kd.C_drewN ?_ _) | (with_reducible refine Kd.C_drew ?_)))
            (case side2 => exact HC116_7.out)
            (case side3 => repeat (first | exact (Kd.C_below HR116_8.out HB.out) | (with_reducible refine Kd.C_alloc ?_ _) | (with_reducible refine Kd.C_drewN ?_ _) | (with_reducible refine Kd.C_drew ?_)))
            (case side4 => exact HC116_8.out)
            rintro e w9 ⟨rfl, hb⟩
            refine ⟨_, rfl, ?_⟩
            have n0_ := Aside0.mk (blk_below (g := gb114) (o := .cells #[.int .i64 a0_0, .string a0_1, .string a0_2, .int .i64 a0_3, .int .u64 a0_4, .int .u64 a0_5, .slice A0_6 l0_6.length c0_6, .slice (some ad115) l0_7.length c0_7] 37 (0, 0)) (by (with_reducible repeat (first | refine blk_drewN ?_ _ | refine blk_drew ?_ | refine blk_alloc ?_ _)); exact BK114.out) hb)
            have n1_ := Aside0.mk (below_step (by repeat (first | (with_reducible first | exact HB.out | apply below_alloc | apply pw_below_drewN | apply below_drew1 | refine below_set ?_ GE114.out) | exact HB.out)) hb)
            clear BK114
            clear HB
            have BK114 := n0_
            have HB := n1_
            clear n0_ n1_
            (try clear hb)
            (try clear hb2)
            (try clear hk)
            (try clear hi)
            refine hK.out _ _ ⟨(blk_cell BK114.out 0).trans rfl, (blk_cell BK114.out 1).trans rfl, (blk_cell BK114.out 2).trans rfl, (blk_cell BK114.out 3).trans rfl, (blk_cell BK114.out 4).trans rfl, (blk_cell BK114.out 5).trans rfl, (blk_cell BK114.out 6).trans rfl, (blk_cell BK114.out 7).trans rfl, ((HB.out.cell (World.block_lt_of_cell? w _ hw115_0)).trans hw115_0), ((HB.out.cell (World.block_lt_of_cell? w _ hw115_1)).trans hw115_1), ((HB.out.cell (World.block_lt_of_cell? w _ hw115_2)).trans hw115_2), ((HB.out.cell (World.block_lt_of_cell? w _ hw115_3)).trans hw115_3), ((HB.out.cell (World.block_lt_of_cell? w _ hw115_4)).trans hw115_4), ((HB.out.cell (World.block_lt_of_cell? w _ hw115_5)).trans hw115_5), ((HB.out.cell (World.block_lt_of_cell? w _ hw115_6)).trans hw115_6), ((HB.out.cell (World.block_lt_of_cell? w _ hw115_7)).trans hw115_7), ((HB.out.cell (World.block_lt_of_cell? w _ hw115_8)).trans hw115_8), ((HB.out.cell (World.block_lt_of_cell? w _ hw116_0)).trans hw116_0), ((HB.out.cell (World.block_lt_of_cell? w _ hw116_1)).trans hw116_1), ((HB.out.cell (World.block_lt_of_cell? w _ hw116_2)).trans hw116_2), ((HB.out.cell (World.block_lt_of_cell? w _ hw116_3)).trans hw116_3), ((HB.out.cell (World.block_lt_of_cell? w _ hw116_4)).trans hw116_4), ((HB.out.cell (World.block_lt_of_cell? w _ hw116_5)).trans hw116_5), ((HB.out.cell (World.block_lt_of_cell? w _ hw116_6)).trans hw116_6), ((HB.out.cell (World.block_lt_of_cell? w _ hw116_7)).trans hw116_7), ((HB.out.cell (World.block_lt_of_cell? w _ hw116_8)).trans hw116_8)⟩ (fun hHeld => ?_)
            clear hK K
            refine norm_ (a' := ?_) ?_ ?_
            rotate_left
            · show Act.put _ (some 38) _ = _
              simp only [Act.put, List.setIfInBounds_toArray, List.set_cons_zero, List.set_cons_succ, i64_w, i32_w]
              rfl
            refine pure_ (i := 16) (N := some 39) (v := ?_) (a' := ?_) #[true, true, true, true, true, true, true, true, true, true, true, true, true, true, true, true, true, false] rfl rfl (any_of HT_.out (by kernel_rfl)) (fun _ _ _ h => h) (Or.inl ⟨by rfl, ?_⟩) ?_ ?_
            rotate_left
            · intro w'
              go_simp
              with_reducible rfl
            rotate_left
            · simp only [Act.put, List.setIfInBounds_toArray, List.set_cons_zero, List.set_cons_succ, i64_w, i32_w]
              rfl
            refine pure_ (i := 17) (N := some 3) (v := ?_) (a' := ?_) #[true, true, true, true, true, true, true, true, true, true, true, true, true, true, true, true, true, true] rfl rfl (any_of HT_.out (by kernel_rfl)) (fun _ _ _ h => h) (Or.inl ⟨by rfl, ?_⟩) ?_ ?_
            rotate_left
            · intro w'
              go_simp
              with_reducible rfl
            rotate_left
            · simp only [Act.put, List.setIfInBounds_toArray, List.set_cons_zero, List.set_cons_succ, i64_w, i32_w]
              rfl
            refine done_ (done_of HT_.out (by kernel_rfl)) ?_
            try go_wp2
            go_roundg k1
            case measure => have := HK1.out; omega
            case rel => exact ⟨(wrap64 ((wrap64 (x3_1 + (((rd_T98 l0_7 x4_1).f0).size : Int))) + t117)), (wrap64 (x4_1 + 1)), (by first | rfl | (simp; done) | (simp [*]; done)), (by first | rfl | (simp; done) | (simp [*]; done)), H', ⟨by have := HK1.out; omega⟩, ⟨by (with_reducible repeat (first | refine blk_drewN ?_ _ | refine blk_drew ?_ | refine blk_alloc ?_ _)); exact BK114.out⟩, ⟨by repeat (first | (with_reducible first | exact HB.out | apply below_alloc | apply pw_below_drewN | apply below_drew1 | refine below_set ?_ GE114.out) | exact HB.out)⟩⟩
        · rw [if_neg c5] at H
          exact absurd H (by simp)
      · rw [if_neg c4] at H
        have c4b0 : decide (x4_1 < (l0_7.length : Int)) = false := decide_eq_false c4
        clear c4
        as_aux_lemma =>
          obtain rfl := Option.some.inj H
          have hcz10_0 : wr.cell? ⟨gb114, 0, none⟩ = some (.int .i64 a0_0) := (blk_cell BK114.out 0).trans rfl
          have hcz10_1 : wr.cell? ⟨gb114, 1, none⟩ = some (.string a0_1) := (blk_cell BK114.out 1).trans rfl
          have hcz10_2 : wr.cell? ⟨gb114, 2, none⟩ = some (.string a0_2) := (blk_cell BK114.out 2).trans rfl
          have hcz10_3 : wr.cell? ⟨gb114, 3, none⟩ = some (.int .i64 a0_3) := (blk_cell BK114.out 3).trans rfl
          have hcz10_4 : wr.cell? ⟨gb114, 4, none⟩ = some (.int .u64 a0_4) := (blk_cell BK114.out 4).trans rfl
          have hcz10_5 : wr.cell? ⟨gb114, 5, none⟩ = some (.int .u64 a0_5) := (blk_cell BK114.out 5).trans rfl
          have hcz10_6 : wr.cell? ⟨gb114, 6, none⟩ = some (.slice A0_6 l0_6.length c0_6) := (blk_cell BK114.out 6).trans rfl
          have hcz10_7 : wr.cell? ⟨gb114, 7, none⟩ = some (.slice A0_7 l0_7.length c0_7) := (blk_cell BK114.out 7).trans rfl
          have hfz10_0 := blk_frozen BK114.out 0
          have hfz10_1 := blk_frozen BK114.out 1
          have hfz10_2 := blk_frozen BK114.out 2
          have hfz10_3 := blk_frozen BK114.out 3
          have hfz10_4 := blk_frozen BK114.out 4
          have hfz10_5 := blk_frozen BK114.out 5
          have hfz10_6 := blk_frozen BK114.out 6
          have hfz10_7 := blk_frozen BK114.out 7
          go_wp2
          go_ret
          exact ⟨by first | rfl | (simp [errW_none, errW_some] <;> rfl) | (simp [*, errW_none, errW_some] <;> rfl), by repeat (first | (with_reducible first | exact HB.out | apply below_alloc | apply pw_below_drewN | apply below_drew1 | refine below_set ?_ GE114.out) | exact HB.out)⟩

/-! ### laws_bindRight: function 32 -/
def laws_bindRight.f (k : Nat) (a0_0 : Int) (a0_1 : ByteArray) (a0_2 : ByteArray) (a0_3 : Int) (a0_4 : Int) (a0_5 : Int) (l0_6 : List Int) (l0_7 : List (S98)) : Option (Bool) := (laws_docCount.f k a0_0 a0_1 a0_2 a0_3 a0_4 a0_5 l0_6 l0_7 1000).bind fun t119 => (if t119 ≤ 1000 then ((spec_DocRight.f a0_0 a0_1 a0_2 a0_3 a0_4 a0_5 l0_6 l0_7).bind fun t120 => (if t120 = true then ((laws_docBytes.f k a0_0 a0_1 a0_2 a0_3 a0_4 a0_5 l0_6 l0_7).bind fun t121 => (some (decide (t121 ≤ 65536)))) else (some false))) else (some false))
theorem laws_bindRight.mono : ∀ a0 a1 a2 a3 a4 a5 a6 a7 k, LeO (laws_bindRight.f k a0 a1 a2 a3 a4 a5 a6 a7) (laws_bindRight.f (k + 1) a0 a1 a2 a3 a4 a5 a6 a7) := by
  intro a0 a1 a2 a3 a4 a5 a6 a7 k
  unfold laws_bindRight.f
  repeat' first
      | (with_reducible exact laws_docBytes.mono _ _ _ _ _ _ _ _ _)
      | (with_reducible exact laws_docCount.mono _ _ _ _ _ _ _ _ _ _)
      | (with_reducible exact LeO.refl _)
      | (with_reducible exact LeO.none _)
      | (with_reducible refine LeO.ite ?_ ?_)
      | (with_reducible refine LeO.bind ?_ (fun _ => ?_))
      | exact laws_docBytes.mono _ _ _ _ _ _ _ _ _
      | exact laws_docCount.mono _ _ _ _ _ _ _ _ _ _
      | exact LeO.none _
      | refine LeO.ite ?_ ?_
      | refine LeO.bind ?_ (fun _ => ?_)
set_option maxHeartbeats 8000000 in
set_option maxRecDepth 100000 in
theorem laws_bindRight.calls (k : Nat) (a0_0 : Int) (a0_1 : ByteArray) (a0_2 : ByteArray) (a0_3 : Int) (a0_4 : Int) (a0_5 : Int) (A0_6 : Option Addr) (c0_6 : Nat) (l0_6 : List Int) (A0_7 : Option Addr) (c0_7 : Nat) (l0_7 : List (S98)) (r : Bool) (w : World) (hr0_6 : Kd.C (Kd.int .u8) w A0_6 l0_6.length l0_6) (hc0_6 : l0_6.length ≤ c0_6) (hr0_7 : Kd.C k98 w A0_7 l0_7.length l0_7) (hc0_7 : l0_7.length ≤ c0_7) (h : laws_bindRight.f k a0_0 a0_1 a0_2 a0_3 a0_4 a0_5 l0_6 l0_7 = some r) :
    Calls Try.prog 32 #[.agg #[.int .i64 a0_0, .string a0_1, .string a0_2, .int .i64 a0_3, .int .u64 a0_4, .int .u64 a0_5, .slice A0_6 l0_6.length c0_6, .slice A0_7 l0_7.length c0_7]] w fun e w' => e = .returned (.bool r) ∧ Below w.heap.size w w' := by
  have hu37 := Try.underlying37
  have HR0_6 := Aside0.mk hr0_6
  have HC0_6 := Aside0.mk hc0_6
  clear hr0_6 hc0_6
  have HR0_7 := Aside0.mk hr0_7
  have HC0_7 := Aside0.mk hc0_7
  clear hr0_7 hc0_7
  have HB := Aside0.mk (Below.refl w.heap.size w)
  have H : ((laws_docCount.f k a0_0 a0_1 a0_2 a0_3 a0_4 a0_5 l0_6 l0_7 1000).bind fun t119 => (if t119 ≤ 1000 then ((spec_DocRight.f a0_0 a0_1 a0_2 a0_3 a0_4 a0_5 l0_6 l0_7).bind fun t120 => (if t120 = true then ((laws_docBytes.f k a0_0 a0_1 a0_2 a0_3 a0_4 a0_5 l0_6 l0_7).bind fun t121 => (some (decide (t121 ≤ 65536)))) else (some false))) else (some false))) = some r := h
  clear h
  replace H := Option.bind_eq_some_iff.mp H
  obtain ⟨t119, A20, H⟩ := H
  replace H : (if t119 ≤ 1000 then ((spec_DocRight.f a0_0 a0_1 a0_2 a0_3 a0_4 a0_5 l0_6 l0_7).bind fun t120 => (if t120 = true then ((laws_docBytes.f k a0_0 a0_1 a0_2 a0_3 a0_4 a0_5 l0_6 l0_7).bind fun t121 => (some (decide (t121 ≤ 65536)))) else (some false))) else (some false)) = some r := H
  have A2 := Aside0.mk A20
  clear A20
  by_cases c3 : t119 ≤ 1000
  · rw [if_pos c3] at H
    have c3b0 : decide (t119 ≤ 1000) = true := decide_eq_true c3
    clear c3
    replace H := Option.bind_eq_some_iff.mp H
    obtain ⟨t120, A40, H⟩ := H
    replace H : (if t120 = true then ((laws_docBytes.f k a0_0 a0_1 a0_2 a0_3 a0_4 a0_5 l0_6 l0_7).bind fun t121 => (some (decide (t121 ≤ 65536)))) else (some false)) = some r := H
    have A4 := Aside0.mk A40
    clear A40
    by_cases c5 : t120 = true
    · subst c5
      have H1 : ((laws_docBytes.f k a0_0 a0_1 a0_2 a0_3 a0_4 a0_5 l0_6 l0_7).bind fun t121 => (some (decide (t121 ≤ 65536)))) = some r := by rw [if_pos rfl] at H; exact H
      clear H
      have H := H1
      clear H1
      replace H := Option.bind_eq_some_iff.mp H
      obtain ⟨t121, A60, H⟩ := H
      replace H : (some (decide (t121 ≤ 65536))) = some r := H
      have A6 := Aside0.mk A60
      clear A60
      as_aux_lemma =>
        obtain rfl := Option.some.inj H
        go_enter Try.func32, Try.ntmps32
        go_wp2_with (first | ((with_reducible refine gate_dst (N := 1) rfl ?_); refine box_event ?hg (N := 1) ?hd (cs := #[.int .i64 a0_0, .string a0_1, .string a0_2, .int .i64 a0_3, .int .u64 a0_4, .int .u64 a0_5, .slice A0_6 l0_6.length c0_6, .slice A0_7 l0_7.length c0_7]) (t := 37) ?hr ?_; (case hd => rfl); (case hg => rfl); (case hr => first | (go_simp; done) | (go_simp; rfl)); intro gb118 hg w7 hbox hb; have n0_ := Aside0.mk (below_step (by repeat (first | (with_reducible first | exact HB.out | apply below_alloc | apply pw_below_drewN | apply below_drew1) | exact HB.out)) hb); have n1_ := Aside0.mk (hbox); have n2_ := Aside0.mk ((by rw [hg]; exact (below_size (by repeat (first | (with_reducible first | exact HB.out | apply below_alloc | apply pw_below_drewN | apply below_drew1) | exact HB.out))) : w.heap.size ≤ gb118)); have n3_ := Aside0.mk ((by rw [hg]; exact (below_size (by repeat (first | (with_reducible first | exact HB.out | apply below_alloc | apply pw_below_drewN | apply below_drew1) | exact HB.out))) : w.heap.size ≤ gb118)); clear HB; have HB := n0_; have BK118 := n1_; have GW118 := n2_; have GE118 := n3_; clear n0_ n1_ n2_ n3_; clear hb hbox hg; have hcz8_0 : w7.cell? ⟨gb118, 0, none⟩ = some (.int .i64 a0_0) := (blk_cell BK118.out 0).trans rfl; have hcz8_1 : w7.cell? ⟨gb118, 1, none⟩ = some (.string a0_1) := (blk_cell BK118.out 1).trans rfl; have hcz8_2 : w7.cell? ⟨gb118, 2, none⟩ = some (.string a0_2) := (blk_cell BK118.out 2).trans rfl; have hcz8_3 : w7.cell? ⟨gb118, 3, none⟩ = some (.int .i64 a0_3) := (blk_cell BK118.out 3).trans rfl; have hcz8_4 : w7.cell? ⟨gb118, 4, none⟩ = some (.int .u64 a0_4) := (blk_cell BK118.out 4).trans rfl; have hcz8_5 : w7.cell? ⟨gb118, 5, none⟩ = some (.int .u64 a0_5) := (blk_cell BK118.out 5).trans rfl; have hcz8_6 : w7.cell? ⟨gb118, 6, none⟩ = some (.slice A0_6 l0_6.length c0_6) := (blk_cell BK118.out 6).trans rfl; have hcz8_7 : w7.cell? ⟨gb118, 7, none⟩ = some (.slice A0_7 l0_7.length c0_7) := (blk_cell BK118.out 7).trans rfl; have hfz8_0 := blk_frozen BK118.out 0; have hfz8_1 := blk_frozen BK118.out 1; have hfz8_2 := blk_frozen BK118.out 2; have hfz8_3 := blk_frozen BK118.out 3; have hfz8_4 := blk_frozen BK118.out 4; have hfz8_5 := blk_frozen BK118.out 5; have hfz8_6 := blk_frozen BK118.out 6; have hfz8_7 := blk_frozen BK118.out 7) | ((with_reducible refine gate_callee (f := 51) rfl ?_); refine goesL_ (some 4) rfl rfl Try.func51 (by kernel_rfl) rfl #[.agg #[.int .i64 a0_0, .string a0_1, .string a0_2, .int .i64 a0_3, .int .u64 a0_4, .int .u64 a0_5, .slice A0_6 l0_6.length c0_6, .slice A0_7 l0_7.length c0_7], .int .i64 1000] rfl (by (try simp only [List.map_toArray, List.map_cons, List.map_nil]); first | done | rfl | (simp only [List.length_drop, List.length_take]; rfl)) ?_; (with_reducible refine (laws_docCount.calls k a0_0 a0_1 a0_2 a0_3 a0_4 a0_5 _ _ l0_6 _ _ l0_7 1000 t119 _ ?side1 ?side2 ?side3 ?side4 A2.out).mono ?_); (case side1 => repeat (first | exact (Kd.C_below HR0_6.out HB.out) | (with_reducible refine Kd.C_alloc ?_ _) | (with_reducible refine Kd.C_drewN ?_ _) | (with_reducible refine Kd.C_drew ?_))); (case side2 => exact HC0_6.out); (case side3 => repeat (first | exact (Kd.C_below HR0_7.out HB.out) | (with_reducible refine Kd.C_alloc ?_ _) | (with_reducible refine Kd.C_drewN ?_ _) | (with_reducible refine Kd.C_drew ?_))); (case side4 => exact HC0_7.out); rintro e w9 ⟨rfl, hb⟩; refine ⟨_, rfl, ?_⟩; have n0_ := Aside0.mk (blk_below (g := gb118) (o := .cells #[.int .i64 a0_0, .string a0_1, .string a0_2, .int .i64 a0_3, .int .u64 a0_4, .int .u64 a0_5, .slice A0_6 l0_6.length c0_6, .slice A0_7 l0_7.length c0_7] 37 (0, 0)) (by (with_reducible repeat (first | refine blk_drewN ?_ _ | refine blk_drew ?_ | refine blk_alloc ?_ _)); exact BK118.out) hb); have n1_ := Aside0.mk (below_step (by repeat (first | (with_reducible first | exact HB.out | apply below_alloc | apply pw_below_drewN | apply below_drew1 | refine below_set ?_ GE118.out) | exact HB.out)) hb); clear BK118; clear HB; have BK118 := n0_; have HB := n1_; clear n0_ n1_; (try clear hb); (try clear hb2); (try clear hk); (try clear hi); have hcz10_0 : w9.cell? ⟨gb118, 0, none⟩ = some (.int .i64 a0_0) := (blk_cell BK118.out 0).trans rfl; have hcz10_1 : w9.cell? ⟨gb118, 1, none⟩ = some (.string a0_1) := (blk_cell BK118.out 1).trans rfl; have hcz10_2 : w9.cell? ⟨gb118, 2, none⟩ = some (.string a0_2) := (blk_cell BK118.out 2).trans rfl; have hcz10_3 : w9.cell? ⟨gb118, 3, none⟩ = some (.int .i64 a0_3) := (blk_cell BK118.out 3).trans rfl; have hcz10_4 : w9.cell? ⟨gb118, 4, none⟩ = some (.int .u64 a0_4) := (blk_cell BK118.out 4).trans rfl; have hcz10_5 : w9.cell? ⟨gb118, 5, none⟩ = some (.int .u64 a0_5) := (blk_cell BK118.out 5).trans rfl; have hcz10_6 : w9.cell? ⟨gb118, 6, none⟩ = some (.slice A0_6 l0_6.length c0_6) := (blk_cell BK118.out 6).trans rfl; have hcz10_7 : w9.cell? ⟨gb118, 7, none⟩ = some (.slice A0_7 l0_7.length c0_7) := (blk_cell BK118.out 7).trans rfl; have hfz10_0 := blk_frozen BK118.out 0; have hfz10_1 := blk_frozen BK118.out 1; have hfz10_2 := blk_frozen BK118.out 2; have hfz10_3 := blk_frozen BK118.out 3; have hfz10_4 := blk_frozen BK118.out 4; have hfz10_5 := blk_frozen BK118.out 5; have hfz10_6 := blk_frozen BK118.out 6; have hfz10_7 := blk_frozen BK118.out 7) | (go_at_call 52; (with_reducible refine (spec_DocRight.calls a0_0 a0_1 a0_2 a0_3 a0_4 a0_5 _ _ l0_6 _ _ l0_7 true _ ?side1 ?side2 ?side3 ?side4 A4.out).mono ?_); (case side1 => repeat (first | exact (Kd.C_below HR0_6.out HB.out) | (with_reducible refine Kd.C_alloc ?_ _) | (with_reducible refine Kd.C_drewN ?_ _) | (with_reducible refine Kd.C_drew ?_))); (case side2 => exact HC0_6.out); (case side3 => repeat (first | exact (Kd.C_below HR0_7.out HB.out) | (with_reducible refine Kd.C_alloc ?_ _) | (with_reducible refine Kd.C_drewN ?_ _) | (with_reducible refine Kd.C_drew ?_))); (case side4 => exact HC0_7.out); rintro e w11 ⟨rfl, hb⟩; have n0_ := Aside0.mk (blk_below (g := gb118) (o := .cells #[.int .i64 a0_0, .string a0_1, .string a0_2, .int .i64 a0_3, .int .u64 a0_4, .int .u64 a0_5, .slice A0_6 l0_6.length c0_6, .slice A0_7 l0_7.length c0_7] 37 (0, 0)) (by (with_reducible repeat (first | refine blk_drewN ?_ _ | refine blk_drew ?_ | refine blk_alloc ?_ _)); exact BK118.out) hb); have n1_ := Aside0.mk (below_step (by repeat (first | (with_reducible first | exact HB.out | apply below_alloc | apply pw_below_drewN | apply below_drew1 | refine below_set ?_ GE118.out) | exact HB.out)) hb); clear BK118; clear HB; have BK118 := n0_; have HB := n1_; clear n0_ n1_; (try clear hb); (try clear hb2); (try clear hk); (try clear hi); have hcz12_0 : w11.cell? ⟨gb118, 0, none⟩ = some (.int .i64 a0_0) := (blk_cell BK118.out 0).trans rfl; have hcz12_1 : w11.cell? ⟨gb118, 1, none⟩ = some (.string a0_1) := (blk_cell BK118.out 1).trans rfl; have hcz12_2 : w11.cell? ⟨gb118, 2, none⟩ = some (.string a0_2) := (blk_cell BK118.out 2).trans rfl; have hcz12_3 : w11.cell? ⟨gb118, 3, none⟩ = some (.int .i64 a0_3) := (blk_cell BK118.out 3).trans rfl; have hcz12_4 : w11.cell? ⟨gb118, 4, none⟩ = some (.int .u64 a0_4) := (blk_cell BK118.out 4).trans rfl; have hcz12_5 : w11.cell? ⟨gb118, 5, none⟩ = some (.int .u64 a0_5) := (blk_cell BK118.out 5).trans rfl; have hcz12_6 : w11.cell? ⟨gb118, 6, none⟩ = some (.slice A0_6 l0_6.length c0_6) := (blk_cell BK118.out 6).trans rfl; have hcz12_7 : w11.cell? ⟨gb118, 7, none⟩ = some (.slice A0_7 l0_7.length c0_7) := (blk_cell BK118.out 7).trans rfl; have hfz12_0 := blk_frozen BK118.out 0; have hfz12_1 := blk_frozen BK118.out 1; have hfz12_2 := blk_frozen BK118.out 2; have hfz12_3 := blk_frozen BK118.out 3; have hfz12_4 := blk_frozen BK118.out 4; have hfz12_5 := blk_frozen BK118.out 5; have hfz12_6 := blk_frozen BK118.out 6; have hfz12_7 := blk_frozen BK118.out 7) | (go_at_call 53; (with_reducible refine (laws_docBytes.calls k a0_0 a0_1 a0_2 a0_3 a0_4 a0_5 _ _ l0_6 _ _ l0_7 t121 _ ?side1 ?side2 ?side3 ?side4 A6.out).mono ?_); (case side1 => repeat (first | exact (Kd.C_below HR0_6.out HB.out) | (with_reducible refine Kd.C_alloc ?_ _) | (with_reducible refine Kd.C_drewN ?_ _) | (with_reducible refine Kd.C_drew ?_))); (case side2 => exact HC0_6.out); (case side3 => repeat (first | exact (Kd.C_below HR0_7.out HB.out) | (with_reducible refine Kd.C_alloc ?_ _) | (with_reducible refine Kd.C_drewN ?_ _) | (with_reducible refine Kd.C_drew ?_))); (case side4 => exact HC0_7.out); rintro e w13 ⟨rfl, hb⟩; have n0_ := Aside0.mk (blk_below (g := gb118) (o := .cells #[.int .i64 a0_0, .string a0_1, .string a0_2, .int .i64 a0_3, .int .u64 a0_4, .int .u64 a0_5, .slice A0_6 l0_6.length c0_6, .slice A0_7 l0_7.length c0_7] 37 (0, 0)) (by (with_reducible repeat (first | refine blk_drewN ?_ _ | refine blk_drew ?_ | refine blk_alloc ?_ _)); exact BK118.out) hb); have n1_ := Aside0.mk (below_step (by repeat (first | (with_reducible first | exact HB.out | apply below_alloc | apply pw_below_drewN | apply below_drew1 | refine below_set ?_ GE118.out) | exact HB.out)) hb); clear BK118; clear HB; have BK118 := n0_; have HB := n1_; clear n0_ n1_; (try clear hb); (try clear hb2); (try clear hk); (try clear hi)))
        go_ret
        exact ⟨by first | rfl | (simp [errW_none, errW_some] <;> rfl) | (simp [*, errW_none, errW_some] <;> rfl), by repeat (first | (with_reducible first | exact HB.out | apply below_alloc | apply pw_below_drewN | apply below_drew1 | refine below_set ?_ GE118.out) | exact HB.out)⟩
    · replace c5 := Bool.eq_false_iff.mpr c5
      subst c5
      have H1 : (some false) = some r := by rw [if_neg (show ¬ (false = true) by decide)] at H; exact H
      clear H
      have H := H1
      clear H1
      as_aux_lemma =>
        obtain rfl := Option.some.inj H
        go_enter Try.func32, Try.ntmps32
        go_wp2_with (first | ((with_reducible refine gate_dst (N := 1) rfl ?_); refine box_event ?hg (N := 1) ?hd (cs := #[.int .i64 a0_0, .string a0_1, .string a0_2, .int .i64 a0_3, .int .u64 a0_4, .int .u64 a0_5, .slice A0_6 l0_6.length c0_6, .slice A0_7 l0_7.length c0_7]) (t := 37) ?hr ?_; (case hd => rfl); (case hg => rfl); (case hr => first | (go_simp; done) | (go_simp; rfl)); intro gb118 hg w14 hbox hb; have n0_ := Aside0.mk (below_step (by repeat (first | (with_reducible first | exact HB.out | apply below_alloc | apply pw_below_drewN | apply below_drew1) | exact HB.out)) hb); have n1_ := Aside0.mk (hbox); have n2_ := Aside0.mk ((by rw [hg]; exact (below_size (by repeat (first | (with_reducible first | exact HB.out | apply below_alloc | apply pw_below_drewN | apply below_drew1) | exact HB.out))) : w.heap.size ≤ gb118)); have n3_ := Aside0.mk ((by rw [hg]; exact (below_size (by repeat (first | (with_reducible first | exact HB.out | apply below_alloc | apply pw_below_drewN | apply below_drew1) | exact HB.out))) : w.heap.size ≤ gb118)); clear HB; have HB := n0_; have BK118 := n1_; have GW118 := n2_; have GE118 := n3_; clear n0_ n1_ n2_ n3_; clear hb hbox hg; have hcz15_0 : w14.cell? ⟨gb118, 0, none⟩ = some (.int .i64 a0_0) := (blk_cell BK118.out 0).trans rfl; have hcz15_1 : w14.cell? ⟨gb118, 1, none⟩ = some (.string a0_1) := (blk_cell BK118.out 1).trans rfl; have hcz15_2 : w14.cell? ⟨gb118, 2, none⟩ = some (.string a0_2) := (blk_cell BK118.out 2).trans rfl; have hcz15_3 : w14.cell? ⟨gb118, 3, none⟩ = some (.int .i64 a0_3) := (blk_cell BK118.out 3).trans rfl; have hcz15_4 : w14.cell? ⟨gb118, 4, none⟩ = some (.int .u64 a0_4) := (blk_cell BK118.out 4).trans rfl; have hcz15_5 : w14.cell? ⟨gb118, 5, none⟩ = some (.int .u64 a0_5) := (blk_cell BK118.out 5).trans rfl; have hcz15_6 : w14.cell? ⟨gb118, 6, none⟩ = some (.slice A0_6 l0_6.length c0_6) := (blk_cell BK118.out 6).trans rfl; have hcz15_7 : w14.cell? ⟨gb118, 7, none⟩ = some (.slice A0_7 l0_7.length c0_7) := (blk_cell BK118.out 7).trans rfl; have hfz15_0 := blk_frozen BK118.out 0; have hfz15_1 := blk_frozen BK118.out 1; have hfz15_2 := blk_frozen BK118.out 2; have hfz15_3 := blk_frozen BK118.out 3; have hfz15_4 := blk_frozen BK118.out 4; have hfz15_5 := blk_frozen BK118.out 5; have hfz15_6 := blk_frozen BK118.out 6; have hfz15_7 := blk_frozen BK118.out 7) | ((with_reducible refine gate_callee (f := 51) rfl ?_); refine goesL_ (some 4) rfl rfl Try.func51 (by kernel_rfl) rfl #[.agg #[.int .i64 a0_0, .string a0_1, .string a0_2, .int .i64 a0_3, .int .u64 a0_4, .int .u64 a0_5, .slice A0_6 l0_6.length c0_6, .slice A0_7 l0_7.length c0_7], .int .i64 1000] rfl (by (try simp only [List.map_toArray, List.map_cons, List.map_nil]); first | done | rfl | (simp only [List.length_drop, List.length_take]; rfl)) ?_; (with_reducible refine (laws_docCount.calls k a0_0 a0_1 a0_2 a0_3 a0_4 a0_5 _ _ l0_6 _ _ l0_7 1000 t119 _ ?side1 ?side2 ?side3 ?side4 A2.out).mono ?_); (case side1 => repeat (first | exact (Kd.C_below HR0_6.out HB.out) | (with_reducible refine Kd.C_alloc ?_ _) | (with_reducible refine Kd.C_drewN ?_ _) | (with_reducible refine Kd.C_drew ?_))); (case side2 => exact HC0_6.out); (case side3 => repeat (first | exact (Kd.C_below HR0_7.out HB.out) | (with_reducible refine Kd.C_alloc ?_ _) | (with_reducible refine Kd.C_drewN ?_ _) | (with_reducible refine Kd.C_drew ?_))); (case side4 => exact HC0_7.out); rintro e w16 ⟨rfl, hb⟩; refine ⟨_, rfl, ?_⟩; have n0_ := Aside0.mk (blk_below (g := gb118) (o := .cells #[.int .i64 a0_0, .string a0_1, .string a0_2, .int .i64 a0_3, .int .u64 a0_4, .int .u64 a0_5, .slice A0_6 l0_6.length c0_6, .slice A0_7 l0_7.length c0_7] 37 (0, 0)) (by (with_reducible repeat (first | refine blk_drewN ?_ _ | refine blk_drew ?_ | refine blk_alloc ?_ _)); exact BK118.out) hb); have n1_ := Aside0.mk (below_step (by repeat (first | (with_reducible first | exact HB.out | apply below_alloc | apply pw_below_drewN | apply below_drew1 | refine below_set ?_ GE118.out) | exact HB.out)) hb); clear BK118; clear HB; have BK118 := n0_; have HB := n1_; clear n0_ n1_; (try clear hb); (try clear hb2); (try clear hk); (try clear hi); have hcz17_0 : w16.cell? ⟨gb118, 0, none⟩ = some (.int .i64 a0_0) := (blk_cell BK118.out 0).trans rfl; have hcz17_1 : w16.cell? ⟨gb118, 1, none⟩ = some (.string a0_1) := (blk_cell BK118.out 1).trans rfl; have hcz17_2 : w16.cell? ⟨gb118, 2, none⟩ = some (.string a0_2) := (blk_cell BK118.out 2).trans rfl; have hcz17_3 : w16.cell? ⟨gb118, 3, none⟩ = some (.int .i64 a0_3) := (blk_cell BK118.out 3).trans rfl; have hcz17_4 : w16.cell? ⟨gb118, 4, none⟩ = some (.int .u64 a0_4) := (blk_cell BK118.out 4).trans rfl; have hcz17_5 : w16.cell? ⟨gb118, 5, none⟩ = some (.int .u64 a0_5) := (blk_cell BK118.out 5).trans rfl; have hcz17_6 : w16.cell? ⟨gb118, 6, none⟩ = some (.slice A0_6 l0_6.length c0_6) := (blk_cell BK118.out 6).trans rfl; have hcz17_7 : w16.cell? ⟨gb118, 7, none⟩ = some (.slice A0_7 l0_7.length c0_7) := (blk_cell BK118.out 7).trans rfl; have hfz17_0 := blk_frozen BK118.out 0; have hfz17_1 := blk_frozen BK118.out 1; have hfz17_2 := blk_frozen BK118.out 2; have hfz17_3 := blk_frozen BK118.out 3; have hfz17_4 := blk_frozen BK118.out 4; have hfz17_5 := blk_frozen BK118.out 5; have hfz17_6 := blk_frozen BK118.out 6; have hfz17_7 := blk_frozen BK118.out 7) | (go_at_call 52; (with_reducible refine (spec_DocRight.calls a0_0 a0_1 a0_2 a0_3 a0_4 a0_5 _ _ l0_6 _ _ l0_7 false _ ?side1 ?side2 ?side3 ?side4 A4.out).mono ?_); (case side1 => repeat (first | exact (Kd.C_below HR0_6.out HB.out) | (with_reducible refine Kd.C_alloc ?_ _) | (with_reducible refine Kd.C_drewN ?_ _) | (with_reducible refine Kd.C_drew ?_))); (case side2 => exact HC0_6.out); (case side3 => repeat (first | exact (Kd.C_below HR0_7.out HB.out) | (with_reducible refine Kd.C_alloc ?_ _) | (with_reducible refine Kd.C_drewN ?_ _) | (with_reducible refine Kd.C_drew ?_))); (case side4 => exact HC0_7.out); rintro e w18 ⟨rfl, hb⟩; have n0_ := Aside0.mk (blk_below (g := gb118) (o := .cells #[.int .i64 a0_0, .string a0_1, .string a0_2, .int .i64 a0_3, .int .u64 a0_4, .int .u64 a0_5, .slice A0_6 l0_6.length c0_6, .slice A0_7 l0_7.length c0_7] 37 (0, 0)) (by (with_reducible repeat (first | refine blk_drewN ?_ _ | refine blk_drew ?_ | refine blk_alloc ?_ _)); exact BK118.out) hb); have n1_ := Aside0.mk (below_step (by repeat (first | (with_reducible first | exact HB.out | apply below_alloc | apply pw_below_drewN | apply below_drew1 | refine below_set ?_ GE118.out) | exact HB.out)) hb); clear BK118; clear HB; have BK118 := n0_; have HB := n1_; clear n0_ n1_; (try clear hb); (try clear hb2); (try clear hk); (try clear hi)))
        go_ret
        exact ⟨by first | rfl | (simp [errW_none, errW_some] <;> rfl) | (simp [*, errW_none, errW_some] <;> rfl), by repeat (first | (with_reducible first | exact HB.out | apply below_alloc | apply pw_below_drewN | apply below_drew1 | refine below_set ?_ GE118.out) | exact HB.out)⟩
  · rw [if_neg c3] at H
    have c3b0 : decide (t119 ≤ 1000) = false := decide_eq_false c3
    clear c3
    as_aux_lemma =>
      obtain rfl := Option.some.inj H
      go_enter Try.func32, Try.ntmps32
      go_wp2_with (first | ((with_reducible refine gate_dst (N := 1) rfl ?_); refine box_event ?hg (N := 1) ?hd (cs := #[.int .i64 a0_0, .string a0_1, .string a0_2, .int .i64 a0_3, .int .u64 a0_4, .int .u64 a0_5, .slice A0_6 l0_6.length c0_6, .slice A0_7 l0_7.length c0_7]) (t := 37) ?hr ?_; (case hd => rfl); (case hg => rfl); (case hr => first | (go_simp; done) | (go_simp; rfl)); intro gb118 hg w19 hbox hb; have n0_ := Aside0.mk (below_step (by repeat (first | (with_reducible first | exact HB.out | apply below_alloc | apply pw_below_drewN | apply below_drew1) | exact HB.out)) hb); have n1_ := Aside0.mk (hbox); have n2_ := Aside0.mk ((by rw [hg]; exact (below_size (by repeat (first | (with_reducible first | exact HB.out | apply below_alloc | apply pw_below_drewN | apply below_drew1) | exact HB.out))) : w.heap.size ≤ gb118)); have n3_ := Aside0.mk ((by rw [hg]; exact (below_size (by repeat (first | (with_reducible first | exact HB.out | apply below_alloc | apply pw_below_drewN | apply below_drew1) | exact HB.out))) : w.heap.size ≤ gb118)); clear HB; have HB := n0_; have BK118 := n1_; have GW118 := n2_; have GE118 := n3_; clear n0_ n1_ n2_ n3_; clear hb hbox hg; have hcz20_0 : w19.cell? ⟨gb118, 0, none⟩ = some (.int .i64 a0_0) := (blk_cell BK118.out 0).trans rfl; have hcz20_1 : w19.cell? ⟨gb118, 1, none⟩ = some (.string a0_1) := (blk_cell BK118.out 1).trans rfl; have hcz20_2 : w19.cell? ⟨gb118, 2, none⟩ = some (.string a0_2) := (blk_cell BK118.out 2).trans rfl; have hcz20_3 : w19.cell? ⟨gb118, 3, none⟩ = some (.int .i64 a0_3) := (blk_cell BK118.out 3).trans rfl; have hcz20_4 : w19.cell? ⟨gb118, 4, none⟩ = some (.int .u64 a0_4) := (blk_cell BK118.out 4).trans rfl; have hcz20_5 : w19.cell? ⟨gb118, 5, none⟩ = some (.int .u64 a0_5) := (blk_cell BK118.out 5).trans rfl; have hcz20_6 : w19.cell? ⟨gb118, 6, none⟩ = some (.slice A0_6 l0_6.length c0_6) := (blk_cell BK118.out 6).trans rfl; have hcz20_7 : w19.cell? ⟨gb118, 7, none⟩ = some (.slice A0_7 l0_7.length c0_7) := (blk_cell BK118.out 7).trans rfl; have hfz20_0 := blk_frozen BK118.out 0; have hfz20_1 := blk_frozen BK118.out 1; have hfz20_2 := blk_frozen BK118.out 2; have hfz20_3 := blk_frozen BK118.out 3; have hfz20_4 := blk_frozen BK118.out 4; have hfz20_5 := blk_frozen BK118.out 5; have hfz20_6 := blk_frozen BK118.out 6; have hfz20_7 := blk_frozen BK118.out 7) | ((with_reducible refine gate_callee (f := 51) rfl ?_); refine goesL_ (some 4) rfl rfl Try.func51 (by kernel_rfl) rfl #[.agg #[.int .i64 a0_0, .string a0_1, .string a0_2, .int .i64 a0_3, .int .u64 a0_4, .int .u64 a0_5, .slice A0_6 l0_6.length c0_6, .slice A0_7 l0_7.length c0_7], .int .i64 1000] rfl (by (try simp only [List.map_toArray, List.map_cons, List.map_nil]); first | done | rfl | (simp only [List.length_drop, List.length_take]; rfl)) ?_; (with_reducible refine (laws_docCount.calls k a0_0 a0_1 a0_2 a0_3 a0_4 a0_5 _ _ l0_6 _ _ l0_7 1000 t119 _ ?side1 ?side2 ?side3 ?side4 A2.out).mono ?_); (case side1 => repeat (first | exact (Kd.C_below HR0_6.out HB.out) | (with_reducible refine Kd.C_alloc ?_ _) | (with_reducible refine Kd.C_drewN ?_ _) | (with_reducible refine Kd.C_drew ?_))); (case side2 => exact HC0_6.out); (case side3 => repeat (first | exact (Kd.C_below HR0_7.out HB.out) | (with_reducible refine Kd.C_alloc ?_ _) | (with_reducible refine Kd.C_drewN ?_ _) | (with_reducible refine Kd.C_drew ?_))); (case side4 => exact HC0_7.out); rintro e w21 ⟨rfl, hb⟩; refine ⟨_, rfl, ?_⟩; have n0_ := Aside0.mk (blk_below (g := gb118) (o := .cells #[.int .i64 a0_0, .string a0_1, .string a0_2, .int .i64 a0_3, .int .u64 a0_4, .int .u64 a0_5, .slice A0_6 l0_6.length c0_6, .slice A0_7 l0_7.length c0_7] 37 (0, 0)) (by (with_reducible repeat (first | refine blk_drewN ?_ _ | refine blk_drew ?_ | refine blk_alloc ?_ _)); exact BK118.out) hb); have n1_ := Aside0.mk (below_step (by repeat (first | (with_reducible first | exact HB.out | apply below_alloc | apply pw_below_drewN | apply below_drew1 | refine below_set ?_ GE118.out) | exact HB.out)) hb); clear BK118; clear HB; have BK118 := n0_; have HB := n1_; clear n0_ n1_; (try clear hb); (try clear hb2); (try clear hk); (try clear hi)))
      go_ret
      exact ⟨by first | rfl | (simp [errW_none, errW_some] <;> rfl) | (simp [*, errW_none, errW_some] <;> rfl), by repeat (first | (with_reducible first | exact HB.out | apply below_alloc | apply pw_below_drewN | apply below_drew1 | refine below_set ?_ GE118.out) | exact HB.out)⟩

/-! ### impl_some: function 54 -/
def impl_some.f (a0_0 : Int) (l0_1 : List Int) : Option (Int × List Int) := some ((a0_0) % 256, l0_1)
set_option maxHeartbeats 8000000 in
set_option maxRecDepth 100000 in
theorem impl_some.calls (a0_0 : Int) (P0_1_ : Nat → Prop) (A0_1 : Option Addr) (c0_1 : Nat) (l0_1 : List Int) (r1 : Int) (r2 : List Int) (w : World) (hs0_1 : Kd.V (Kd.int .u8) 5 w w.heap.size (fun k_ => P0_1_ k_) (.slice A0_1 l0_1.length c0_1) l0_1) (h : impl_some.f a0_0 l0_1 = some (r1, r2)) :
    Calls Try.prog 54 #[.agg #[.int .i64 a0_0, .slice A0_1 l0_1.length c0_1]] w fun e w' => ∃ v1_ : Value, e = .returned (.agg #[.int .u8 r1, v1_]) ∧ Kd.V (Kd.int .u8) 5 w' w.heap.size (fun k_ => (P0_1_ k_ ∨ w.heap.size ≤ k_)) v1_ r2 ∧ Below w.heap.size w w' := by
  have hu59 := Try.underlying59
  have hu86 := Try.underlying86
  have HO0_1 := Aside0.mk (show Kd.V (Kd.int .u8) 5 w w.heap.size (fun k_ => (P0_1_ k_ ∨ w.heap.size ≤ k_)) (.slice A0_1 l0_1.length c0_1) l0_1 from Kd.V_mono hs0_1 (fun k_ hk => .inl hk))
  have HB := Aside0.mk (Below.refl w.heap.size w)
  have H : (some ((a0_0) % 256, l0_1)) = some (r1, r2) := h
  clear h
  as_aux_lemma =>
    simp only [Option.some.injEq, Prod.mk.injEq] at H
    obtain ⟨rfl, rfl⟩ := H
    go_enter Try.func54, Try.ntmps54
    go_wp2_with (first | ((with_reducible refine gate_dst (N := 1) rfl ?_); refine box_event ?hg (N := 1) ?hd (cs := #[.int .i64 a0_0, .slice A0_1 l0_1.length c0_1]) (t := 59) ?hr ?_; (case hd => rfl); (case hg => rfl); (case hr => first | (go_simp; done) | (go_simp; rfl)); intro gb122 hg w2 hbox hb; have n0_ := Aside0.mk (Kd.V_below (Kd.V_elderB (by (with_reducible repeat (first | apply Kd.V_alloc | apply Kd.V_drewN | apply Kd.V_drew)); exact HO0_1.out) gb122 (Nat.le_of_eq hg.symm)) hb); have n1_ := Aside0.mk (below_step (by repeat (first | (with_reducible first | exact HB.out | apply below_alloc | apply pw_below_drewN | apply below_drew1) | exact HB.out)) hb); have n2_ := Aside0.mk (hbox); have n3_ := Aside0.mk ((by rw [hg]; exact (below_size (by repeat (first | (with_reducible first | exact HB.out | apply below_alloc | apply pw_below_drewN | apply below_drew1) | exact HB.out))) : w.heap.size ≤ gb122)); have n4_ := Aside0.mk ((by rw [hg]; exact (below_size (by repeat (first | (with_reducible first | exact HB.out | apply below_alloc | apply pw_below_drewN | apply below_drew1) | exact HB.out))) : w.heap.size ≤ gb122)); clear HO0_1; clear HB; have HO0_1 := n0_; have HB := n1_; have BK122 := n2_; have GW122 := n3_; have GE122 := n4_; clear n0_ n1_ n2_ n3_ n4_; clear hb hbox hg) | ((with_reducible refine gate_dst (N := 2) rfl ?_); refine box_event ?hg (N := 2) ?hd (cs := #[.int .u8 0, .slice none 0 0]) (t := 86) ?hr ?_; (case hd => rfl); (case hg => rfl); (case hr => first | (go_simp; done) | (go_simp; rfl)); intro gb123 hg w3 hbox hb; have n0_ := Aside0.mk (Kd.V_below (Kd.V_elderB (by (with_reducible repeat (first | apply Kd.V_alloc | apply Kd.V_drewN | apply Kd.V_drew)); exact HO0_1.out) gb123 (Nat.le_of_eq hg.symm)) hb); have n1_ := Aside0.mk (blk_below (g := gb122) (o := .cells #[.int .i64 a0_0, .slice A0_1 l0_1.length c0_1] 59 (0, 0)) (by (with_reducible repeat (first | refine blk_drewN ?_ _ | refine blk_drew ?_ | refine blk_alloc ?_ _)); exact BK122.out) hb); have n2_ := Aside0.mk (below_step (by repeat (first | (with_reducible first | exact HB.out | apply below_alloc | apply pw_below_drewN | apply below_drew1 | refine below_set ?_ GE122.out) | exact HB.out)) hb); have n3_ := Aside0.mk (hbox); have n4_ := Aside0.mk ((by rw [hg]; exact (below_size (by repeat (first | (with_reducible first | exact HB.out | apply below_alloc | apply pw_below_drewN | apply below_drew1 | refine below_set ?_ GE122.out) | exact HB.out))) : w.heap.size ≤ gb123)); have n5_ := Aside0.mk ((by rw [hg]; exact (below_size (by repeat (first | (with_reducible first | exact HB.out | apply below_alloc | apply pw_below_drewN | apply below_drew1 | refine below_set ?_ GE122.out) | exact HB.out))) : w.heap.size ≤ gb123)); have n6_ := Aside0.mk ((by rw [hg]; exact Nat.ne_of_lt (blk_lt (g := gb122) (o := .cells #[.int .i64 a0_0, .slice A0_1 l0_1.length c0_1] 59 (0, 0)) (by (with_reducible repeat (first | refine blk_drewN ?_ _ | refine blk_drew ?_ | refine blk_alloc ?_ _)); exact BK122.out)) : gb122 ≠ gb123)); have n7_ := Aside0.mk ((by rw [hg]; exact Nat.ne_of_gt (blk_lt (g := gb122) (o := .cells #[.int .i64 a0_0, .slice A0_1 l0_1.length c0_1] 59 (0, 0)) (by (with_reducible repeat (first | refine blk_drewN ?_ _ | refine blk_drew ?_ | refine blk_alloc ?_ _)); exact BK122.out)) : gb123 ≠ gb122)); clear HO0_1; clear BK122; clear HB; have HO0_1 := n0_; have BK122 := n1_; have HB := n2_; have BK123 := n3_; have GW123 := n4_; have GE123 := n5_; have NB122_123 := n6_; have NB123_122 := n7_; clear n0_ n1_ n2_ n3_ n4_ n5_ n6_ n7_; clear hb hbox hg; have hnb4 := NB122_123.out; have hnc4 := NB123_122.out; have hcz5_0 : w3.cell? ⟨gb122, 0, none⟩ = some (.int .i64 a0_0) := (blk_cell BK122.out 0).trans rfl; have hcz5_1 : w3.cell? ⟨gb122, 1, none⟩ = some (.slice A0_1 l0_1.length c0_1) := (blk_cell BK122.out 1).trans rfl; have hfz5_0 := blk_frozen BK122.out 0; have hfz5_1 := blk_frozen BK122.out 1; have hcz6_0 : w3.cell? ⟨gb123, 0, none⟩ = some (.int .u8 0) := (blk_cell BK123.out 0).trans rfl; have hcz6_1 : w3.cell? ⟨gb123, 1, none⟩ = some (.slice none 0 0) := (blk_cell BK123.out 1).trans rfl; have hfz6_0 := blk_frozen BK123.out 0; have hfz6_1 := blk_frozen BK123.out 1))
    refine bodyPost_ret (results_cell_row rfl _ _ gb123 86 #[.int .u8 ((a0_0) % 256), .slice A0_1 l0_1.length c0_1] (0, 0) _ rfl (by (with_reducible repeat (first | refine blk_drewN ?_ _ | refine blk_drew ?_ | refine blk_alloc ?_ _)); refine blk_put (cs := #[.int .u8 ((a0_0) % 256), .slice none 0 0]) ?_ 1 _ rfl; (with_reducible repeat (first | refine blk_drewN ?_ _ | refine blk_drew ?_ | refine blk_alloc ?_ _)); refine blk_put (cs := #[.int .u8 0, .slice none 0 0]) ?_ 0 _ rfl; (with_reducible repeat (first | refine blk_drewN ?_ _ | refine blk_drew ?_ | refine blk_alloc ?_ _)); exact BK123.out) Try.underlying86 rfl (by kernel_rfl)) rfl ?_
    exact ⟨_, by first | rfl | (simp [errW_none, errW_some] <;> rfl) | (simp [*, errW_none, errW_some] <;> rfl), by (with_reducible repeat (first | apply Kd.V_alloc | apply Kd.V_drewN | apply Kd.V_drew)); exact Kd.V_mono (Kd.V_far (p := ⟨gb123, 1, none⟩) (Kd.V_far (p := ⟨gb123, 0, none⟩) (Kd.V_mono HO0_1.out (fun k_ hk => (⟨hk, hk.2⟩ : _ ∧ k_ ≠ gb123))) (fun _ hk => hk.2) (.int .u8 ((a0_0) % 256))) (fun _ hk => hk.2) (.slice A0_1 l0_1.length c0_1)) (fun _ hk => hk.1.1.1), by repeat (first | (with_reducible first | exact HB.out | apply below_alloc | apply pw_below_drewN | apply below_drew1 | refine below_set ?_ GE122.out | refine below_set ?_ GE123.out) | exact HB.out)⟩

/-! ### bson_convertToCoreValue: function 66 -/
def bson_convertToCoreValue.f (a0_0 : Int) (l0_1 : List Int) : Option (Int × List Int) := some (a0_0, l0_1)
set_option maxHeartbeats 8000000 in
set_option maxRecDepth 100000 in
theorem bson_convertToCoreValue.calls (a0_0 : Int) (P0_1_ : Nat → Prop) (A0_1 : Option Addr) (c0_1 : Nat) (l0_1 : List Int) (r1 : Int) (r2 : List Int) (w : World) (hs0_1 : Kd.V (Kd.int .u8) 5 w w.heap.size (fun k_ => P0_1_ k_) (.slice A0_1 l0_1.length c0_1) l0_1) (h : bson_convertToCoreValue.f a0_0 l0_1 = some (r1, r2)) :
    Calls Try.prog 66 #[.agg #[.int .u8 a0_0, .slice A0_1 l0_1.length c0_1]] w fun e w' => ∃ v1_ : Value, e = .returned (.agg #[.int .u8 r1, v1_]) ∧ Kd.V (Kd.int .u8) 5 w' w.heap.size (fun k_ => (P0_1_ k_ ∨ w.heap.size ≤ k_)) v1_ r2 ∧ Below w.heap.size w w' := by
  have hu86 := Try.underlying86
  have hu101 := Try.underlying101
  have HO0_1 := Aside0.mk (show Kd.V (Kd.int .u8) 5 w w.heap.size (fun k_ => (P0_1_ k_ ∨ w.heap.size ≤ k_)) (.slice A0_1 l0_1.length c0_1) l0_1 from Kd.V_mono hs0_1 (fun k_ hk => .inl hk))
  have HB := Aside0.mk (Below.refl w.heap.size w)
  have H : (some (a0_0, l0_1)) = some (r1, r2) := h
  clear h
  as_aux_lemma =>
    simp only [Option.some.injEq, Prod.mk.injEq] at H
    obtain ⟨rfl, rfl⟩ := H
    go_enter Try.func66, Try.ntmps66
    go_wp2_with (first | ((with_reducible refine gate_dst (N := 1) rfl ?_); refine box_event ?hg (N := 1) ?hd (cs := #[.int .u8 a0_0, .slice A0_1 l0_1.length c0_1]) (t := 86) ?hr ?_; (case hd => rfl); (case hg => rfl); (case hr => first | (go_simp; done) | (go_simp; rfl)); intro gb124 hg w2 hbox hb; have n0_ := Aside0.mk (Kd.V_below (Kd.V_elderB (by (with_reducible repeat (first | apply Kd.V_alloc | apply Kd.V_drewN | apply Kd.V_drew)); exact HO0_1.out) gb124 (Nat.le_of_eq hg.symm)) hb); have n1_ := Aside0.mk (below_step (by repeat (first | (with_reducible first | exact HB.out | apply below_alloc | apply pw_below_drewN | apply below_drew1) | exact HB.out)) hb); have n2_ := Aside0.mk (hbox); have n3_ := Aside0.mk ((by rw [hg]; exact (below_size (by repeat (first | (with_reducible first | exact HB.out | apply below_alloc | apply pw_below_drewN | apply below_drew1) | exact HB.out))) : w.heap.size ≤ gb124)); have n4_ := Aside0.mk ((by rw [hg]; exact (below_size (by repeat (first | (with_reducible first | exact HB.out | apply below_alloc | apply pw_below_drewN | apply below_drew1) | exact HB.out))) : w.heap.size ≤ gb124)); clear HO0_1; clear HB; have HO0_1 := n0_; have HB := n1_; have BK124 := n2_; have GW124 := n3_; have GE124 := n4_; clear n0_ n1_ n2_ n3_ n4_; clear hb hbox hg) | ((with_reducible refine gate_dst (N := 2) rfl ?_); refine box_event ?hg (N := 2) ?hd (cs := #[.int .u8 0, .slice none 0 0]) (t := 101) ?hr ?_; (case hd => rfl); (case hg => rfl); (case hr => first | (go_simp; done) | (go_simp; rfl)); intro gb125 hg w3 hbox hb; have n0_ := Aside0.mk (Kd.V_below (Kd.V_elderB (by (with_reducible repeat (first | apply Kd.V_alloc | apply Kd.V_drewN | apply Kd.V_drew)); exact HO0_1.out) gb125 (Nat.le_of_eq hg.symm)) hb); have n1_ := Aside0.mk (blk_below (g := gb124) (o := .cells #[.int .u8 a0_0, .slice A0_1 l0_1.length c0_1] 86 (0, 0)) (by (with_reducible repeat (first | refine blk_drewN ?_ _ | refine blk_drew ?_ | refine blk_alloc ?_ _)); exact BK124.out) hb); have n2_ := Aside0.mk (below_step (by repeat (first | (with_reducible first | exact HB.out | apply below_alloc | apply pw_below_drewN | apply below_drew1 | refine below_set ?_ GE124.out) | exact HB.out)) hb); have n3_ := Aside0.mk (hbox); have n4_ := Aside0.mk ((by rw [hg]; exact (below_size (by repeat (first | (with_reducible first | exact HB.out | apply below_alloc | apply pw_below_drewN | apply below_drew1 | refine below_set ?_ GE124.out) | exact HB.out))) : w.heap.size ≤ gb125)); have n5_ := Aside0.mk ((by rw [hg]; exact (below_size (by repeat (first | (with_reducible first | exact HB.out | apply below_alloc | apply pw_below_drewN | apply below_drew1 | refine below_set ?_ GE124.out) | exact HB.out))) : w.heap.size ≤ gb125)); have n6_ := Aside0.mk ((by rw [hg]; exact Nat.ne_of_lt (blk_lt (g := gb124) (o := .cells #[.int .u8 a0_0, .slice A0_1 l0_1.length c0_1] 86 (0, 0)) (by (with_reducible repeat (first | refine blk_drewN ?_ _ | refine blk_drew ?_ | refine blk_alloc ?_ _)); exact BK124.out)) : gb124 ≠ gb125)); have n7_ := Aside0.mk ((by rw [hg]; exact Nat.ne_of_gt (blk_lt (g := gb124) (o := .cells #[.int .u8 a0_0, .slice A0_1 l0_1.length c0_1] 86 (0, 0)) (by (with_reducible repeat (first | refine blk_drewN ?_ _ | refine blk_drew ?_ | refine blk_alloc ?_ _)); exact BK124.out)) : gb125 ≠ gb124)); clear HO0_1; clear BK124; clear HB; have HO0_1 := n0_; have BK124 := n1_; have HB := n2_; have BK125 := n3_; have GW125 := n4_; have GE125 := n5_; have NB124_125 := n6_; have NB125_124 := n7_; clear n0_ n1_ n2_ n3_ n4_ n5_ n6_ n7_; clear hb hbox hg; have hnb4 := NB124_125.out; have hnc4 := NB125_124.out; have hcz5_0 : w3.cell? ⟨gb124, 0, none⟩ = some (.int .u8 a0_0) := (blk_cell BK124.out 0).trans rfl; have hcz5_1 : w3.cell? ⟨gb124, 1, none⟩ = some (.slice A0_1 l0_1.length c0_1) := (blk_cell BK124.out 1).trans rfl; have hfz5_0 := blk_frozen BK124.out 0; have hfz5_1 := blk_frozen BK124.out 1; have hcz6_0 : w3.cell? ⟨gb125, 0, none⟩ = some (.int .u8 0) := (blk_cell BK125.out 0).trans rfl; have hcz6_1 : w3.cell? ⟨gb125, 1, none⟩ = some (.slice none 0 0) := (blk_cell BK125.out 1).trans rfl; have hfz6_0 := blk_frozen BK125.out 0; have hfz6_1 := blk_frozen BK125.out 1))
    refine bodyPost_ret (results_cell_row rfl _ _ gb125 101 #[.int .u8 a0_0, .slice A0_1 l0_1.length c0_1] (0, 0) _ rfl (by (with_reducible repeat (first | refine blk_drewN ?_ _ | refine blk_drew ?_ | refine blk_alloc ?_ _)); refine blk_put (cs := #[.int .u8 a0_0, .slice none 0 0]) ?_ 1 _ rfl; (with_reducible repeat (first | refine blk_drewN ?_ _ | refine blk_drew ?_ | refine blk_alloc ?_ _)); refine blk_put (cs := #[.int .u8 0, .slice none 0 0]) ?_ 0 _ rfl; (with_reducible repeat (first | refine blk_drewN ?_ _ | refine blk_drew ?_ | refine blk_alloc ?_ _)); exact BK125.out) Try.underlying101 rfl (by kernel_rfl)) rfl ?_
    exact ⟨_, by first | rfl | (simp [errW_none, errW_some] <;> rfl) | (simp [*, errW_none, errW_some] <;> rfl), by (with_reducible repeat (first | apply Kd.V_alloc | apply Kd.V_drewN | apply Kd.V_drew)); exact Kd.V_mono (Kd.V_far (p := ⟨gb125, 1, none⟩) (Kd.V_far (p := ⟨gb125, 0, none⟩) (Kd.V_mono HO0_1.out (fun k_ hk => (⟨hk, hk.2⟩ : _ ∧ k_ ≠ gb125))) (fun _ hk => hk.2) (.int .u8 a0_0)) (fun _ hk => hk.2) (.slice A0_1 l0_1.length c0_1)) (fun _ hk => hk.1.1.1), by repeat (first | (with_reducible first | exact HB.out | apply below_alloc | apply pw_below_drewN | apply below_drew1 | refine below_set ?_ GE124.out | refine below_set ?_ GE125.out) | exact HB.out)⟩

/-! ### bsoncore_Value_IsNumber: function 77 -/
def bsoncore_Value_IsNumber.j0 : Nat → Bool → Option (Bool)
  | 0, _ => none
  | k + 1, x5 => if x5 = true then (some true) else (some false)
def bsoncore_Value_IsNumber.f (k : Nat) (a0_0 : Int) (l0_1 : List Int) : Option (Bool) := if a0_0 = 1 then (bsoncore_Value_IsNumber.j0 k (a0_0 == 1)) else (if a0_0 = 16 then (bsoncore_Value_IsNumber.j0 k (a0_0 == 16)) else (if a0_0 = 18 then (bsoncore_Value_IsNumber.j0 k (a0_0 == 18)) else (bsoncore_Value_IsNumber.j0 k (a0_0 == 19))))
theorem bsoncore_Value_IsNumber.mono_l : ∀ k, (∀ y0, LeO (bsoncore_Value_IsNumber.j0 k y0) (bsoncore_Value_IsNumber.j0 (k + 1) y0))
  | 0 => fun _ r h => by simp [bsoncore_Value_IsNumber.j0] at h
  | k + 1 => by
    have ih0 := bsoncore_Value_IsNumber.mono_l k
    · intro y0
      unfold bsoncore_Value_IsNumber.j0
      repeat' first
      | (with_reducible exact ih0 _)
      | (with_reducible exact LeO.refl _)
      | (with_reducible exact LeO.none _)
      | (with_reducible refine LeO.ite ?_ ?_)
      | (with_reducible refine LeO.bind ?_ (fun _ => ?_))
      | exact ih0 _
      | exact LeO.none _
      | refine LeO.ite ?_ ?_
      | refine LeO.bind ?_ (fun _ => ?_)
theorem bsoncore_Value_IsNumber.mono : ∀ a0 a1 k, LeO (bsoncore_Value_IsNumber.f k a0 a1) (bsoncore_Value_IsNumber.f (k + 1) a0 a1) := by
  intro a0 a1 k
  have ih0 := bsoncore_Value_IsNumber.mono_l k
  unfold bsoncore_Value_IsNumber.f
  repeat' first
      | (with_reducible exact ih0 _)
      | (with_reducible exact LeO.refl _)
      | (with_reducible exact LeO.none _)
      | (with_reducible refine LeO.ite ?_ ?_)
      | (with_reducible refine LeO.bind ?_ (fun _ => ?_))
      | exact ih0 _
      | exact LeO.none _
      | refine LeO.ite ?_ ?_
      | refine LeO.bind ?_ (fun _ => ?_)
set_option maxHeartbeats 8000000 in
set_option maxRecDepth 100000 in
theorem bsoncore_Value_IsNumber.calls (k : Nat) (a0_0 : Int) (A0_1 : Option Addr) (c0_1 : Nat) (l0_1 : List Int) (r : Bool) (w : World) (hr0_1 : Kd.C (Kd.int .u8) w A0_1 l0_1.length l0_1) (hc0_1 : l0_1.length ≤ c0_1) (h : bsoncore_Value_IsNumber.f k a0_0 l0_1 = some r) :
    Calls Try.prog 77 #[.agg #[.int .u8 a0_0, .slice A0_1 l0_1.length c0_1]] w fun e w' => e = .returned (.bool r) ∧ Below w.heap.size w w' := by
  have hu101 := Try.underlying101
  have HR0_1 := Aside0.mk hr0_1
  have HC0_1 := Aside0.mk hc0_1
  clear hr0_1 hc0_1
  have HB := Aside0.mk (Below.refl w.heap.size w)
  have H : (if a0_0 = 1 then (bsoncore_Value_IsNumber.j0 k (a0_0 == 1)) else (if a0_0 = 16 then (bsoncore_Value_IsNumber.j0 k (a0_0 == 16)) else (if a0_0 = 18 then (bsoncore_Value_IsNumber.j0 k (a0_0 == 18)) else (bsoncore_Value_IsNumber.j0 k (a0_0 == 19))))) = some r := h
  clear h
  have HC2 := Aside0.mk H
  clear H
  go_enter Try.func77, Try.ntmps77
  go_upto_if 5 with (first | ((with_reducible refine gate_dst (N := 1) rfl ?_); refine box_event ?hg (N := 1) ?hd (cs := #[.int .u8 a0_0, .slice A0_1 l0_1.length c0_1]) (t := 101) ?hr ?_; (case hd => rfl); (case hg => rfl); (case hr => first | (go_simp; done) | (go_simp; rfl)); intro gb126 hg w3 hbox hb; have n0_ := Aside0.mk (below_step (by repeat (first | (with_reducible first | exact HB.out | apply below_alloc | apply pw_below_drewN | apply below_drew1) | exact HB.out)) hb); have n1_ := Aside0.mk (hbox); have n2_ := Aside0.mk ((by rw [hg]; exact (below_size (by repeat (first | (with_reducible first | exact HB.out | apply below_alloc | apply pw_below_drewN | apply below_drew1) | exact HB.out))) : w.heap.size ≤ gb126)); have n3_ := Aside0.mk ((by rw [hg]; exact (below_size (by repeat (first | (with_reducible first | exact HB.out | apply below_alloc | apply pw_below_drewN | apply below_drew1) | exact HB.out))) : w.heap.size ≤ gb126)); clear HB; have HB := n0_; have BK126 := n1_; have GW126 := n2_; have GE126 := n3_; clear n0_ n1_ n2_ n3_; clear hb hbox hg; have hcz4_0 : w3.cell? ⟨gb126, 0, none⟩ = some (.int .u8 a0_0) := (blk_cell BK126.out 0).trans rfl; have hcz4_1 : w3.cell? ⟨gb126, 1, none⟩ = some (.slice A0_1 l0_1.length c0_1) := (blk_cell BK126.out 1).trans rfl; have hfz4_0 := blk_frozen BK126.out 0; have hfz4_1 := blk_frozen BK126.out 1))
  (try simp only [Act.put, List.setIfInBounds_toArray, List.set_cons_zero, List.set_cons_succ])
  go_cut [5] (fun v5 wc => ∃ (kq : Nat) (x5_1 : Bool), v5 = .bool x5_1 ∧ Aside0 (bsoncore_Value_IsNumber.j0 kq x5_1 = some r) ∧ Aside0 (kq ≤ k) ∧ Aside0 (wc.heap[gb126]? = some (.cells #[.int .u8 a0_0, (.slice A0_1 l0_1.length c0_1)] 101 (0, 0))) ∧ Aside0 (Below w.heap.size w wc))
  case first =>
    have H := HC2.out
    clear HC2
    by_cases c5 : a0_0 = 1
    · rw [if_pos c5] at H
      have c5b0 : (a0_0 == 1) = true := beq_iff_eq.mpr c5
      have c5b1 : (a0_0 != 1) = false := bne_eq_false_iff_eq.mpr c5
      clear c5
      (first | rw [c5b0] | (simp only [i64_w, i32_w]; rw [c5b0]) | skip)
      as_aux_lemma =>
        have H' := Aside0.mk H
        clear H
        go_wp2
        go_meet
        case rel => exact ⟨_, ((a0_0 == 1)), (by first | rfl | (simp; done) | (simp [*]; done)), H', ⟨by first | omega | exact Nat.le_refl _⟩, ⟨by (with_reducible repeat (first | refine blk_drewN ?_ _ | refine blk_drew ?_ | refine blk_alloc ?_ _)); exact BK126.out⟩, ⟨by repeat (first | (with_reducible first | exact HB.out | apply below_alloc | apply pw_below_drewN | apply below_drew1 | refine below_set ?_ GE126.out) | exact HB.out)⟩⟩
    · rw [if_neg c5] at H
      have c5b0 : (a0_0 == 1) = false := beq_eq_false_iff_ne.mpr c5
      have c5b1 : (a0_0 != 1) = true := bne_iff_ne.mpr c5
      (first | rw [c5b0] | (simp only [i64_w, i32_w]; rw [c5b0]) | skip)
      by_cases c6 : a0_0 = 16
      · rw [if_pos c6] at H
        have c6b0 : (a0_0 == 16) = true := beq_iff_eq.mpr c6
        have c6b1 : (a0_0 != 16) = false := bne_eq_false_iff_eq.mpr c6
        clear c6
        as_aux_lemma =>
          have H' := Aside0.mk H
          clear H
          go_wp2
          go_meet
          case rel => exact ⟨_, ((a0_0 == 16)), (by first | rfl | (simp; done) | (simp [*]; done)), H', ⟨by first | omega | exact Nat.le_refl _⟩, ⟨by (with_reducible repeat (first | refine blk_drewN ?_ _ | refine blk_drew ?_ | refine blk_alloc ?_ _)); exact BK126.out⟩, ⟨by repeat (first | (with_reducible first | exact HB.out | apply below_alloc | apply pw_below_drewN | apply below_drew1 | refine below_set ?_ GE126.out) | exact HB.out)⟩⟩
      · rw [if_neg c6] at H
        have c6b0 : (a0_0 == 16) = false := beq_eq_false_iff_ne.mpr c6
        have c6b1 : (a0_0 != 16) = true := bne_iff_ne.mpr c6
        by_cases c7 : a0_0 = 18
        · rw [if_pos c7] at H
          have c7b0 : (a0_0 == 18) = true := beq_iff_eq.mpr c7
          have c7b1 : (a0_0 != 18) = false := bne_eq_false_iff_eq.mpr c7
          clear c7
          as_aux_lemma =>
            have H' := Aside0.mk H
            clear H
            go_wp2
            go_meet
            case rel => exact ⟨_, ((a0_0 == 18)), (by first | rfl | (simp; done) | (simp [*]; done)), H', ⟨by first | omega | exact Nat.le_refl _⟩, ⟨by (with_reducible repeat (first | refine blk_drewN ?_ _ | refine blk_drew ?_ | refine blk_alloc ?_ _)); exact BK126.out⟩, ⟨by repeat (first | (with_reducible first | exact HB.out | apply below_alloc | apply pw_below_drewN | apply below_drew1 | refine below_set ?_ GE126.out) | exact HB.out)⟩⟩
        · rw [if_neg c7] at H
          have c7b0 : (a0_0 == 18) = false := beq_eq_false_iff_ne.mpr c7
          have c7b1 : (a0_0 != 18) = true := bne_iff_ne.mpr c7
          as_aux_lemma =>
            have H' := Aside0.mk H
            clear H
            go_wp2
            go_meet
            case rel => exact ⟨_, ((a0_0 == 19)), (by first | rfl | (simp; done) | (simp [*]; done)), H', ⟨by first | omega | exact Nat.le_refl _⟩, ⟨by (with_reducible repeat (first | refine blk_drewN ?_ _ | refine blk_drew ?_ | refine blk_alloc ?_ _)); exact BK126.out⟩, ⟨by repeat (first | (with_reducible first | exact HB.out | apply below_alloc | apply pw_below_drewN | apply below_drew1 | refine below_set ?_ GE126.out) | exact HB.out)⟩⟩
  case rest =>
    clear HC2
    try clear p2
    try clear c5
    try clear c5b0
    try clear c5b1
    try clear c6
    try clear c6b0
    try clear c6b1
    try clear c7
    try clear c7b0
    try clear c7b1
    try clear hcz4_0
    try clear hcz4_1
    try clear hfz4_0
    try clear hfz4_1
    obtain ⟨kq, x5_1, rfl, HA, HJ1, BK126, HB⟩ := hcut
    cases kq with
    | zero => exact absurd HA.out (by simp [bsoncore_Value_IsNumber.j0])
    | succ kj1 =>
      have H := HA.out
      clear HA
      simp only [bsoncore_Value_IsNumber.j0] at H
      by_cases c8 : x5_1 = true
      · subst c8
        have H1 : (some true) = some r := by rw [if_pos rfl] at H; exact H
        clear H
        have H := H1
        clear H1
        as_aux_lemma =>
          obtain rfl := Option.some.inj H
          go_wp2
          go_ret
          exact ⟨by first | rfl | (simp [errW_none, errW_some] <;> rfl) | (simp [*, errW_none, errW_some] <;> rfl), by repeat (first | (with_reducible first | exact HB.out | apply below_alloc | apply pw_below_drewN | apply below_drew1 | refine below_set ?_ GE126.out) | exact HB.out)⟩
      · replace c8 := Bool.eq_false_iff.mpr c8
        subst c8
        have H1 : (some false) = some r := by rw [if_neg (show ¬ (false = true) by decide)] at H; exact H
        clear H
        have H := H1
        clear H1
        as_aux_lemma =>
          obtain rfl := Option.some.inj H
          go_wp2
          go_ret
          exact ⟨by first | rfl | (simp [errW_none, errW_some] <;> rfl) | (simp [*, errW_none, errW_some] <;> rfl), by repeat (first | (with_reducible first | exact HB.out | apply below_alloc | apply pw_below_drewN | apply below_drew1 | refine below_set ?_ GE126.out) | exact HB.out)⟩

-- NOT PRINTED: function 88 (binary_littleEndian_Uint64)

-- NOT PRINTED: function 84 (binaryutil_ReadU64)

-- NOT PRINTED: function 85 (math_Float64frombits)

-- NOT PRINTED: function 78 (bsoncore_ReadDouble)

/-! ### binaryutil_ReadI32: function 86 -/
def binaryutil_ReadI32.f (l0 : List Int) : Option (Int × List Int × Bool) := if (l0.length : Int) < 4 then (some (0, l0, false)) else (if 3 < (l0.length : Int) then (if 0 < (l0.length : Int) then (if 1 < (l0.length : Int) then (if 2 < (l0.length : Int) then (if 4 ≤ (l0.length : Int) then (some (Go.bits .or .i32 (Go.bits .or .i32 (Go.bits .or .i32 (wrap32 (rd l0 0)) (wrap32 ((wrap32 (rd l0 1)) * 256))) (wrap32 ((wrap32 (rd l0 2)) * 65536))) (wrap32 ((wrap32 (rd l0 3)) * 16777216)), (l0.drop 4), true)) else (none)) else (none)) else (none)) else (none)) else (none))
set_option maxHeartbeats 8000000 in
set_option maxRecDepth 100000 in
theorem binaryutil_ReadI32.calls (P0_ : Nat → Prop) (A0 : Option Addr) (c0 : Nat) (l0 : List Int) (r1 : Int) (r2 : List Int) (r3 : Bool) (w : World) (hs0 : Kd.V (Kd.int .u8) 5 w w.heap.size (fun k_ => P0_ k_) (.slice A0 l0.length c0) l0) (h : binaryutil_ReadI32.f l0 = some (r1, r2, r3)) :
    Calls Try.prog 86 #[.slice A0 l0.length c0] w fun e w' => ∃ v1_ : Value, e = .returned (.tuple #[.int .i32 r1, v1_, .bool r3]) ∧ Kd.V (Kd.int .u8) 5 w' w.heap.size (fun k_ => (P0_ k_ ∨ w.heap.size ≤ k_)) v1_ r2 ∧ Below w.heap.size w w' := by
  have HO0 := Aside0.mk (show Kd.V (Kd.int .u8) 5 w w.heap.size (fun k_ => (P0_ k_ ∨ w.heap.size ≤ k_)) (.slice A0 l0.length c0) l0 from Kd.V_mono hs0 (fun k_ hk => .inl hk))
  have HB := Aside0.mk (Below.refl w.heap.size w)
  have H : (if (l0.length : Int) < 4 then (some (0, l0, false)) else (if 3 < (l0.length : Int) then (if 0 < (l0.length : Int) then (if 1 < (l0.length : Int) then (if 2 < (l0.length : Int) then (if 4 ≤ (l0.length : Int) then (some (Go.bits .or .i32 (Go.bits .or .i32 (Go.bits .or .i32 (wrap32 (rd l0 0)) (wrap32 ((wrap32 (rd l0 1)) * 256))) (wrap32 ((wrap32 (rd l0 2)) * 65536))) (wrap32 ((wrap32 (rd l0 3)) * 16777216)), (l0.drop 4), true)) else (none)) else (none)) else (none)) else (none)) else (none))) = some (r1, r2, r3) := h
  clear h
  by_cases c2 : (l0.length : Int) < 4
  · rw [if_pos c2] at H
    have c2b0 : decide ((l0.length : Int) < 4) = true := decide_eq_true c2
    have c2b1 : decide (l0.length < 4) = true := decide_eq_true (by omega)
    clear c2
    as_aux_lemma =>
      simp only [Option.some.injEq, Prod.mk.injEq] at H
      obtain ⟨rfl, rfl, rfl⟩ := H
      go_enter Try.func86, Try.ntmps86
      go_wp2
      repeat (go_quiet (fail); try go_wp2)
      go_ret3
      exact ⟨_, by first | rfl | (simp [errW_none, errW_some] <;> rfl) | (simp [*, errW_none, errW_some] <;> rfl), by (with_reducible repeat (first | apply Kd.V_alloc | apply Kd.V_drewN | apply Kd.V_drew)); exact HO0.out, by repeat (first | (with_reducible first | exact HB.out | apply below_alloc | apply pw_below_drewN | apply below_drew1) | exact HB.out)⟩
  · rw [if_neg c2] at H
    have c2b0 : decide ((l0.length : Int) < 4) = false := decide_eq_false c2
    have c2b1 : decide (l0.length < 4) = false := decide_eq_false (by omega)
    clear c2
    by_cases c3 : 3 < (l0.length : Int)
    · rw [if_pos c3] at H
      have c3b0 : decide (3 < (l0.length : Int)) = true := decide_eq_true c3
      have c3b1 : decide (3 < l0.length) = true := decide_eq_true (by omega)
      clear c3
      by_cases c4 : 0 < (l0.length : Int)
      · rw [if_pos c4] at H
        have c4b0 : decide (0 < (l0.length : Int)) = true := decide_eq_true c4
        have c4b1 : decide (0 < l0.length) = true := decide_eq_true (by omega)
        clear c4
        by_cases c5 : 1 < (l0.length : Int)
        · rw [if_pos c5] at H
          have c5b0 : decide (1 < (l0.length : Int)) = true := decide_eq_true c5
          have c5b1 : decide (1 < l0.length) = true := decide_eq_true (by omega)
          clear c5
          by_cases c6 : 2 < (l0.length : Int)
          · rw [if_pos c6] at H
            have c6b0 : decide (2 < (l0.length : Int)) = true := decide_eq_true c6
            have c6b1 : decide (2 < l0.length) = true := decide_eq_true (by omega)
            clear c6
            by_cases c7 : 4 ≤ (l0.length : Int)
            · rw [if_pos c7] at H
              have c7b0 := eq_true c7
              have c7b1 : decide (4 ≤ (l0.length : Int)) = true := decide_eq_true c7
              clear c7
              obtain ⟨y132, hy132⟩ : ∃ y_ : List Int, y_ = (l0.drop 4) := ⟨_, rfl⟩
              replace H : (some (Go.bits .or .i32 (Go.bits .or .i32 (Go.bits .or .i32 (wrap32 (rd l0 0)) (wrap32 ((wrap32 (rd l0 1)) * 256))) (wrap32 ((wrap32 (rd l0 2)) * 65536))) (wrap32 ((wrap32 (rd l0 3)) * 16777216)), y132, true)) = some (r1, r2, r3) := by first | (rw [hy132]; with_reducible exact H) | (have H2_ := (Option.bind_some _ _).symm.trans H; rw [hy132]; with_reducible exact H2_) | (have H2_ := (Option.bind_some _ _).symm.trans H; with_reducible exact H2_) | with_reducible exact H | (rw [hy132]; exact H) | exact H
              have Ny132 := Aside0.mk hy132
              clear hy132
              as_aux_lemma =>
                simp only [Option.some.injEq, Prod.mk.injEq] at H
                obtain ⟨rfl, rfl, rfl⟩ := H
                have p127 : 0 ≤ (3 : Int) := (by omega)
                have q127 : 3 < (l0.length : Int) := of_decide_eq_true (by first | (with_reducible assumption) | assumption)
                obtain ⟨ad127, e127, hx127_0⟩ := Kd.at_int (Kd.V_reads' HO0.out).2.2 3 p127 q127
                cases e127
                (try simp only [show (3 : Int).toNat = 3 from rfl, Nat.reduceMul, Nat.reduceEqDiff, Go.Addr.add, ↓reduceIte] at hx127_0)
                have qi127 : (3 < l0.length) = True := eq_true (by omega)
                (try rw [show ((3 : Int)).toNat = 3 from rfl] at hx127_0)
                replace p127 := eq_true p127
                replace q127 := eq_true q127
                have p128 : 0 ≤ (0 : Int) := (by omega)
                have q128 : 0 < (l0.length : Int) := of_decide_eq_true (by first | (with_reducible assumption) | assumption)
                obtain ⟨ad128, e128, hx128_0⟩ := Kd.at_int (Kd.V_reads' HO0.out).2.2 0 p128 q128
                obtain rfl : ad127 = ad128 := (by injection e128)
                have qi128 : (0 < l0.length) = True := eq_true (by omega)
                (try rw [show ((0 : Int)).toNat = 0 from rfl] at hx128_0)
                (try rw [Addr.add_zero'] at hx128_0)
                replace p128 := eq_true p128
                replace q128 := eq_true q128
                have p129 : 0 ≤ (1 : Int) := (by omega)
                have q129 : 1 < (l0.length : Int) := of_decide_eq_true (by first | (with_reducible assumption) | assumption)
                obtain ⟨ad129, e129, hx129_0⟩ := Kd.at_int (Kd.V_reads' HO0.out).2.2 1 p129 q129
                obtain rfl : ad127 = ad129 := (by injection e129)
                (try simp only [show (1 : Int).toNat = 1 from rfl, Nat.reduceMul, Nat.reduceEqDiff, Go.Addr.add, ↓reduceIte] at hx129_0)
                have qi129 : (1 < l0.length) = True := eq_true (by omega)
                (try rw [show ((1 : Int)).toNat = 1 from rfl] at hx129_0)
                replace p129 := eq_true p129
                replace q129 := eq_true q129
                have p130 : 0 ≤ (2 : Int) := (by omega)
                have q130 : 2 < (l0.length : Int) := of_decide_eq_true (by first | (with_reducible assumption) | assumption)
                obtain ⟨ad130, e130, hx130_0⟩ := Kd.at_int (Kd.V_reads' HO0.out).2.2 2 p130 q130
                obtain rfl : ad127 = ad130 := (by injection e130)
                (try simp only [show (2 : Int).toNat = 2 from rfl, Nat.reduceMul, Nat.reduceEqDiff, Go.Addr.add, ↓reduceIte] at hx130_0)
                have qi130 : (2 < l0.length) = True := eq_true (by omega)
                (try rw [show ((2 : Int)).toNat = 2 from rfl] at hx130_0)
                replace p130 := eq_true p130
                replace q130 := eq_true q130
                have p131 : 0 ≤ (3 : Int) := (by omega)
                have q131 : 3 < (l0.length : Int) := of_decide_eq_true (by first | (with_reducible assumption) | assumption)
                obtain ⟨ad131, e131, hx131_0⟩ := Kd.at_int (Kd.V_reads' HO0.out).2.2 3 p131 q131
                obtain rfl : ad127 = ad131 := (by injection e131)
                (try simp only [show (3 : Int).toNat = 3 from rfl, Nat.reduceMul, Nat.reduceEqDiff, Go.Addr.add, ↓reduceIte] at hx131_0)
                have qi131 : (3 < l0.length) = True := eq_true (by omega)
                (try rw [show ((3 : Int)).toNat = 3 from rfl] at hx131_0)
                replace p131 := eq_true p131
                replace q131 := eq_true q131
                have q8 : (4 : Int) ≤ ((l0.length : Int) : Int) := of_decide_eq_true (by first | (with_reducible assumption) | assumption)
                obtain ⟨i08, hi08, _, hsz8, _⟩ := info_parts info5
                have hroom8 : l0.length ≤ c0 := (Kd.V_reads' HO0.out).2.1
                have hC8 : Kd.F (Kd.int .u8) _ _ (some ad127) l0.length l0 := (Kd.V_at (base := w.heap.size) HO0.out).2.2
                have hcut8 := cut_from (P := Try.prog) 24 5 .i64 Try.underlying24 hi08 1 hsz8 (some ad127) l0.length c0 4 (by omega) q8
                have hr8 := Kd.F_cut (m := (4 : Int).toNat) (c := c0) hC8 (by omega) hroom8
                obtain ⟨A8, hA8⟩ : ∃ A1, A1 = (if c0 = (4 : Int).toNat then (some ad127) else ((some ad127) : Option Addr).map (·.add ((4 : Int).toNat * 1))) := ⟨_, rfl⟩
                obtain ⟨c8, hc8⟩ : ∃ c1, c1 = c0 - (4 : Int).toNat := ⟨_, rfl⟩
                have hy8 : y132.length = l0.length - (4 : Int).toNat := (by rw [Ny132.out, List.length_drop] <;> omega)
                rw [show (l0).drop (4 : Int).toNat = y132 from Ny132.out.symm] at hr8
                replace hr8 : Kd.F (Kd.int .u8) _ _ A8 y132.length y132 := (by rw [hA8]; exact hr8)
                rw [← hy8, ← hA8, ← hc8] at hcut8
                have HO136 := Aside0.mk (show Kd.V (Kd.int .u8) 5 _ w.heap.size _ (.slice A8 y132.length c8) y132 from Kd.V_mk (by rw [hy8, hc8]; exact Nat.sub_le_sub_right hroom8 _) hr8)
                have HC136 := Aside0.mk (show y132.length ≤ c8 from by rw [hy8, hc8]; exact Nat.sub_le_sub_right hroom8 _)
                clear hr8 hC8 hroom8 hi08 hsz8 hc8
                have KY8 := Aside0.mk hy8
                have KA8 := Aside0.mk hA8
                clear hy8 hA8
                replace q8 := eq_true q8
                go_enter Try.func86, Try.ntmps86
                go_wp2
                repeat (go_quiet (fail); try go_wp2)
                go_ret3
                exact ⟨_, by first | rfl | (simp [errW_none, errW_some] <;> rfl) | (simp [*, errW_none, errW_some] <;> rfl), by (with_reducible repeat (first | apply Kd.V_alloc | apply Kd.V_drewN | apply Kd.V_drew)); exact HO136.out, by repeat (first | (with_reducible first | exact HB.out | apply below_alloc | apply pw_below_drewN | apply below_drew1) | exact HB.out)⟩
            · rw [if_neg c7] at H
              exact absurd H (by simp)
          · rw [if_neg c6] at H
            exact absurd H (by simp)
        · rw [if_neg c5] at H
          exact absurd H (by simp)
      · rw [if_neg c4] at H
        exact absurd H (by simp)
    · rw [if_neg c3] at H
      exact absurd H (by simp)

/-! ### bsoncore_ReadInt32: function 79 -/
def bsoncore_ReadInt32.f (l0 : List Int) : Option (Int × List Int × Bool) := (binaryutil_ReadI32.f l0).bind fun bt137 => (some (bt137.1, bt137.2.1, bt137.2.2))
set_option maxHeartbeats 8000000 in
set_option maxRecDepth 100000 in
theorem bsoncore_ReadInt32.calls (P0_ : Nat → Prop) (A0 : Option Addr) (c0 : Nat) (l0 : List Int) (r1 : Int) (r2 : List Int) (r3 : Bool) (w : World) (hs0 : Kd.V (Kd.int .u8) 5 w w.heap.size (fun k_ => P0_ k_) (.slice A0 l0.length c0) l0) (h : bsoncore_ReadInt32.f l0 = some (r1, r2, r3)) :
    Calls Try.prog 79 #[.slice A0 l0.length c0] w fun e w' => ∃ v1_ : Value, e = .returned (.tuple #[.int .i32 r1, v1_, .bool r3]) ∧ Kd.V (Kd.int .u8) 5 w' w.heap.size (fun k_ => (P0_ k_ ∨ w.heap.size ≤ k_)) v1_ r2 ∧ Below w.heap.size w w' := by
  have HO0 := Aside0.mk (show Kd.V (Kd.int .u8) 5 w w.heap.size (fun k_ => (P0_ k_ ∨ w.heap.size ≤ k_)) (.slice A0 l0.length c0) l0 from Kd.V_mono hs0 (fun k_ hk => .inl hk))
  have HB := Aside0.mk (Below.refl w.heap.size w)
  have H : ((binaryutil_ReadI32.f l0).bind fun bt137 => (some (bt137.1, bt137.2.1, bt137.2.2))) = some (r1, r2, r3) := h
  clear h
  replace H := Option.bind_eq_some_iff.mp H
  obtain ⟨⟨t137, t138, t141⟩, A20, H⟩ := H
  replace H : (some (t137, t138, t141)) = some (r1, r2, r3) := H
  have A2 := Aside0.mk A20
  clear A20
  as_aux_lemma =>
    simp only [Option.some.injEq, Prod.mk.injEq] at H
    obtain ⟨rfl, rfl, rfl⟩ := H
    go_enter Try.func79, Try.ntmps79
    go_wp2_with (first | ((with_reducible refine gate_callee (f := 86) rfl ?_); refine goesL_ (some 6) rfl rfl Try.func86 (by kernel_rfl) rfl #[.slice A0 l0.length c0] rfl (by (try simp only [List.map_toArray, List.map_cons, List.map_nil]); first | done | rfl | (simp only [List.length_drop, List.length_take]; rfl)) ?_; (with_reducible refine (binaryutil_ReadI32.calls (fun k_ => (P0_ k_ ∨ w.heap.size ≤ k_)) _ _ l0 t137 t138 t141 _ ?side1 A2.out).mono ?_); (case side1 => exact HO0.out); rintro e w3 ⟨v139, rfl, ho0, hb⟩; refine ⟨_, rfl, ?_⟩; have n0_ := Aside0.mk (Kd.V_below (by (with_reducible repeat (first | apply Kd.V_alloc | apply Kd.V_drewN | apply Kd.V_drew)); exact HO0.out) hb); have n1_ := Aside0.mk (Kd.V_lower (Kd.V_mono (ok' := fun k_ => (P0_ k_ ∨ w.heap.size ≤ k_)) ho0 (fun k_ hk_ => Or.elim hk_ (fun hs_ => hs_) (fun hn_ => (.inr (Nat.le_trans (below_size (by repeat (first | (with_reducible first | exact HB.out | apply below_alloc | apply pw_below_drewN | apply below_drew1) | exact HB.out))) hn_))))) (below_size (by repeat (first | (with_reducible first | exact HB.out | apply below_alloc | apply pw_below_drewN | apply below_drew1) | exact HB.out)))); have n2_ := Aside0.mk (below_step (by repeat (first | (with_reducible first | exact HB.out | apply below_alloc | apply pw_below_drewN | apply below_drew1) | exact HB.out)) hb); clear HO0; clear HB; have HO0 := n0_; have HO140 := n1_; have HB := n2_; clear n0_ n1_ n2_; (try clear hb); (try clear hb2); (try clear hk); (try clear hi); (try clear ho0)))
    go_ret3
    exact ⟨_, by first | rfl | (simp [errW_none, errW_some] <;> rfl) | (simp [*, errW_none, errW_some] <;> rfl), by (with_reducible repeat (first | apply Kd.V_alloc | apply Kd.V_drewN | apply Kd.V_drew)); exact HO140.out, by repeat (first | (with_reducible first | exact HB.out | apply below_alloc | apply pw_below_drewN | apply below_drew1) | exact HB.out)⟩

end Go.Proofs.Ythlpmeiihchdjaa.PFlu
