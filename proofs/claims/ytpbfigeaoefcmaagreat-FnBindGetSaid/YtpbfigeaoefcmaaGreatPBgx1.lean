import Derived.Test.YtpbfigeaoefcmaaGreatPBgx0
namespace Go.Proofs.YtpbfigeaoefcmaaGreat.PBg
open Go.RowKit Go.Proofs.YtpbfigeaoefcmaaGreatW.PrintWords Go.Proofs.YtpbfigeaoefcmaaGreatW.PrintLast Go.Proofs.YtpbfigeaoefcmaaGreatW.PrintMore
attribute [local go_sem] max2_int min2_int max_two min_two max_three min_three max_four min_four
set_option linter.unusedVariables false
set_option maxHeartbeats 8000000
set_option maxRecDepth 100000
set_option linter.unusedSimpArgs false
def laws_zzFits1.f (a0_0 : Int) (a0_1 : ByteArray) (a0_2 : ByteArray) (a0_3 : Int) (a0_4 : Int) (a0_5 : Int) (l0_6 : List Int) (l0_7 : List (S89)) : Option (Bool) := if (a0_1.size : Int) > 2147483647 then (some false) else (if (a0_2.size : Int) > 2147483647 then (some false) else (if (l0_6.length : Int) > 2147483647 then (some false) else (if (l0_7.length : Int) > 2147483647 then (some false) else (some true))))
theorem laws_zzFits1.calls (a0_0 : Int) (a0_1 : ByteArray) (a0_2 : ByteArray) (a0_3 : Int) (a0_4 : Int) (a0_5 : Int) (A0_6 : Option Addr) (c0_6 : Nat) (l0_6 : List Int) (A0_7 : Option Addr) (c0_7 : Nat) (l0_7 : List (S89)) (r : Bool) (w : World) (hr0_6 : Kd.C (Kd.int .u8) w A0_6 l0_6.length l0_6) (hc0_6 : l0_6.length ≤ c0_6) (hr0_7 : Kd.C k89 w A0_7 l0_7.length l0_7) (hc0_7 : l0_7.length ≤ c0_7) (h : laws_zzFits1.f a0_0 a0_1 a0_2 a0_3 a0_4 a0_5 l0_6 l0_7 = some r) :
    Calls Tryz.prog 4 #[.agg #[.int .i64 a0_0, .string a0_1, .string a0_2, .int .i64 a0_3, .int .u64 a0_4, .int .u64 a0_5, .slice A0_6 l0_6.length c0_6, .slice A0_7 l0_7.length c0_7]] w fun e w' => e = .returned (.bool r) ∧ Below w.heap.size w w' := by
  have hu26 := Tryz.underlying26; have HR0_6 := Aside0.mk hr0_6; have HC0_6 := Aside0.mk hc0_6; clear hr0_6 hc0_6; have HR0_7 := Aside0.mk hr0_7; have HC0_7 := Aside0.mk hc0_7; clear hr0_7 hc0_7; have HB := Aside0.mk (Below.refl w.heap.size w); have H : (if (a0_1.size : Int) > 2147483647 then (some false) else (if (a0_2.size : Int) > 2147483647 then (some false) else (if (l0_6.length : Int) > 2147483647 then (some false) else (if (l0_7.length : Int) > 2147483647 then (some false) else (some true))))) = some r := h; clear h
  by_cases c2 : (a0_1.size : Int) > 2147483647
  · rw [if_pos c2] at H
    have c2b0 : decide (2147483647 < (a0_1.size : Int)) = true := decide_eq_true c2
    have c2b1 : decide (2147483647 < a0_1.size) = true := decide_eq_true (by omega)
    clear c2
    as_aux_lemma =>
      obtain rfl := Option.some.inj H
      go_enter Tryz.func4, Tryz.ntmps4
      go_wp2_with (first | ((with_reducible refine gate_dst (N := 1) rfl ?_); refine box_event ?hg (N := 1) ?hd (cs := #[.int .i64 a0_0, .string a0_1, .string a0_2, .int .i64 a0_3, .int .u64 a0_4, .int .u64 a0_5, .slice A0_6 l0_6.length c0_6, .slice A0_7 l0_7.length c0_7]) (t := 26) ?hr ?_; (case hd => rfl); (case hg => rfl); (case hr => first | (go_simp; done) | (go_simp; rfl)); intro gb101 hg w3 hbox hb; have n0_ := Aside0.mk (below_step HW.zb hb); have n1_ := Aside0.mk (hbox); have n3_ := Aside0.mk ((by rw [hg]; exact (below_size HW.zb) : w.heap.size ≤ gb101)); clear HB; have HB := n0_; have BK101 := n1_; have GE101 := n3_; clear n0_ n1_ n3_; clear hb hbox hg; obtain ⟨hcz4_0, hcz4_1, hcz4_2, hcz4_3, hcz4_4, hcz4_5, hcz4_6, hcz4_7⟩ := HW.k8 BK101.out))
      go_ret
      exact ⟨rfl, HW.zb⟩
  rw [if_neg c2] at H; have c2b0 : decide (2147483647 < (a0_1.size : Int)) = false := decide_eq_false c2
  have c2b1 : decide (2147483647 < a0_1.size) = false := decide_eq_false (by omega)
  clear c2
  by_cases c5 : (a0_2.size : Int) > 2147483647
  · rw [if_pos c5] at H
    have c5b0 : decide (2147483647 < (a0_2.size : Int)) = true := decide_eq_true c5
    have c5b1 : decide (2147483647 < a0_2.size) = true := decide_eq_true (by omega)
    clear c5
    as_aux_lemma =>
      obtain rfl := Option.some.inj H
      go_enter Tryz.func4, Tryz.ntmps4
      go_wp2_with (first | ((with_reducible refine gate_dst (N := 1) rfl ?_); refine box_event ?hg (N := 1) ?hd (cs := #[.int .i64 a0_0, .string a0_1, .string a0_2, .int .i64 a0_3, .int .u64 a0_4, .int .u64 a0_5, .slice A0_6 l0_6.length c0_6, .slice A0_7 l0_7.length c0_7]) (t := 26) ?hr ?_; (case hd => rfl); (case hg => rfl); (case hr => first | (go_simp; done) | (go_simp; rfl)); intro gb101 hg w6 hbox hb; have n0_ := Aside0.mk (below_step HW.zb hb); have n1_ := Aside0.mk (hbox); have n3_ := Aside0.mk ((by rw [hg]; exact (below_size HW.zb) : w.heap.size ≤ gb101)); clear HB; have HB := n0_; have BK101 := n1_; have GE101 := n3_; clear n0_ n1_ n3_; clear hb hbox hg; obtain ⟨hcz7_0, hcz7_1, hcz7_2, hcz7_3, hcz7_4, hcz7_5, hcz7_6, hcz7_7⟩ := HW.k8 BK101.out))
      go_ret
      exact ⟨rfl, HW.zb⟩
  rw [if_neg c5] at H; have c5b0 : decide (2147483647 < (a0_2.size : Int)) = false := decide_eq_false c5
  have c5b1 : decide (2147483647 < a0_2.size) = false := decide_eq_false (by omega)
  clear c5
  by_cases c8 : (l0_6.length : Int) > 2147483647
  · rw [if_pos c8] at H
    have c8b0 : decide (2147483647 < (l0_6.length : Int)) = true := decide_eq_true c8
    have c8b1 : decide (2147483647 < l0_6.length) = true := decide_eq_true (by omega)
    clear c8
    as_aux_lemma =>
      obtain rfl := Option.some.inj H
      go_enter Tryz.func4, Tryz.ntmps4
      go_wp2_with (first | ((with_reducible refine gate_dst (N := 1) rfl ?_); refine box_event ?hg (N := 1) ?hd (cs := #[.int .i64 a0_0, .string a0_1, .string a0_2, .int .i64 a0_3, .int .u64 a0_4, .int .u64 a0_5, .slice A0_6 l0_6.length c0_6, .slice A0_7 l0_7.length c0_7]) (t := 26) ?hr ?_; (case hd => rfl); (case hg => rfl); (case hr => first | (go_simp; done) | (go_simp; rfl)); intro gb101 hg w9 hbox hb; have n0_ := Aside0.mk (below_step HW.zb hb); have n1_ := Aside0.mk (hbox); have n3_ := Aside0.mk ((by rw [hg]; exact (below_size HW.zb) : w.heap.size ≤ gb101)); clear HB; have HB := n0_; have BK101 := n1_; have GE101 := n3_; clear n0_ n1_ n3_; clear hb hbox hg; obtain ⟨hcz10_0, hcz10_1, hcz10_2, hcz10_3, hcz10_4, hcz10_5, hcz10_6, hcz10_7⟩ := HW.k8 BK101.out))
      go_ret
      exact ⟨rfl, HW.zb⟩
  rw [if_neg c8] at H; have c8b0 : decide (2147483647 < (l0_6.length : Int)) = false := decide_eq_false c8
  have c8b1 : decide (2147483647 < l0_6.length) = false := decide_eq_false (by omega)
  clear c8
  by_cases c11 : (l0_7.length : Int) > 2147483647
  · rw [if_pos c11] at H
    have c11b0 : decide (2147483647 < (l0_7.length : Int)) = true := decide_eq_true c11
    have c11b1 : decide (2147483647 < l0_7.length) = true := decide_eq_true (by omega)
    clear c11
    as_aux_lemma =>
      obtain rfl := Option.some.inj H
      go_enter Tryz.func4, Tryz.ntmps4
      go_wp2_with (first | ((with_reducible refine gate_dst (N := 1) rfl ?_); refine box_event ?hg (N := 1) ?hd (cs := #[.int .i64 a0_0, .string a0_1, .string a0_2, .int .i64 a0_3, .int .u64 a0_4, .int .u64 a0_5, .slice A0_6 l0_6.length c0_6, .slice A0_7 l0_7.length c0_7]) (t := 26) ?hr ?_; (case hd => rfl); (case hg => rfl); (case hr => first | (go_simp; done) | (go_simp; rfl)); intro gb101 hg w12 hbox hb; have n0_ := Aside0.mk (below_step HW.zb hb); have n1_ := Aside0.mk (hbox); have n3_ := Aside0.mk ((by rw [hg]; exact (below_size HW.zb) : w.heap.size ≤ gb101)); clear HB; have HB := n0_; have BK101 := n1_; have GE101 := n3_; clear n0_ n1_ n3_; clear hb hbox hg; obtain ⟨hcz13_0, hcz13_1, hcz13_2, hcz13_3, hcz13_4, hcz13_5, hcz13_6, hcz13_7⟩ := HW.k8 BK101.out))
      go_ret
      exact ⟨rfl, HW.zb⟩
  rw [if_neg c11] at H; have c11b0 : decide (2147483647 < (l0_7.length : Int)) = false := decide_eq_false c11
  have c11b1 : decide (2147483647 < l0_7.length) = false := decide_eq_false (by omega)
  clear c11
  as_aux_lemma =>
    obtain rfl := Option.some.inj H
    go_enter Tryz.func4, Tryz.ntmps4
    go_wp2_with (first | ((with_reducible refine gate_dst (N := 1) rfl ?_); refine box_event ?hg (N := 1) ?hd (cs := #[.int .i64 a0_0, .string a0_1, .string a0_2, .int .i64 a0_3, .int .u64 a0_4, .int .u64 a0_5, .slice A0_6 l0_6.length c0_6, .slice A0_7 l0_7.length c0_7]) (t := 26) ?hr ?_; (case hd => rfl); (case hg => rfl); (case hr => first | (go_simp; done) | (go_simp; rfl)); intro gb101 hg w14 hbox hb; have n0_ := Aside0.mk (below_step HW.zb hb); have n1_ := Aside0.mk (hbox); have n3_ := Aside0.mk ((by rw [hg]; exact (below_size HW.zb) : w.heap.size ≤ gb101)); clear HB; have HB := n0_; have BK101 := n1_; have GE101 := n3_; clear n0_ n1_ n3_; clear hb hbox hg; obtain ⟨hcz15_0, hcz15_1, hcz15_2, hcz15_3, hcz15_4, hcz15_5, hcz15_6, hcz15_7⟩ := HW.k8 BK101.out))
    go_ret
    exact ⟨rfl, HW.zb⟩
mutual
def laws_docCount.l0 : Nat → Int → Int → Int → Int → ByteArray → ByteArray → Int → Int → Int → List Int → List (S89) → Option (Int)
  | 0, _, _, _, _, _, _, _, _, _, _, _ => none
  | k + 1, x1, x5, x6, x103000, x103001, x103002, x103003, x103004, x103005, x103006, x103007 => if x6 < (x103007.length : Int) then (laws_docCount.j1 k x1 x5 x6 (decide (x5 ≤ x1)) x103000 x103001 x103002 x103003 x103004 x103005 x103006 x103007) else (laws_docCount.j1 k x1 x5 x6 false x103000 x103001 x103002 x103003 x103004 x103005 x103006 x103007)
def laws_docCount.j1 : Nat → Int → Int → Int → Bool → Int → ByteArray → ByteArray → Int → Int → Int → List Int → List (S89) → Option (Int)
  | 0, _, _, _, _, _, _, _, _, _, _, _, _ => none
  | k + 1, x1, x5, x6, x16, x103000, x103001, x103002, x103003, x103004, x103005, x103006, x103007 => if x16 = true then (if 0 ≤ x6 then (if x6 < (x103007.length : Int) then ((laws_docCount.f k ((rd_T89 x103007 x6).f1.f0) ((rd_T89 x103007 x6).f1.f1) ((rd_T89 x103007 x6).f1.f2) ((rd_T89 x103007 x6).f1.f3) ((rd_T89 x103007 x6).f1.f4) ((rd_T89 x103007 x6).f1.f5) ((rd_T89 x103007 x6).f1.f6) ((rd_T89 x103007 x6).f1.f7) (wrap64 (x1 - x5))).bind fun t104 => (laws_docCount.l0 k x1 (wrap64 (x5 + t104)) (wrap64 (x6 + 1)) x103000 x103001 x103002 x103003 x103004 x103005 x103006 x103007)) else (none)) else (none)) else (some x5)
def laws_docCount.f : Nat → Int → ByteArray → ByteArray → Int → Int → Int → List Int → List (S89) → Int → Option (Int)
  | 0, _, _, _, _, _, _, _, _, _ => none
  | k + 1, a0_0, a0_1, a0_2, a0_3, a0_4, a0_5, l0_6, l0_7, a1 => laws_docCount.l0 k a1 1 0 a0_0 a0_1 a0_2 a0_3 a0_4 a0_5 l0_6 l0_7
end
theorem laws_docCount.mono_l : ∀ k, (∀ y0 y1 y2 y3 y4 y5 y6 y7 y8, LeO (laws_docCount.f k y0 y1 y2 y3 y4 y5 y6 y7 y8) (laws_docCount.f (k + 1) y0 y1 y2 y3 y4 y5 y6 y7 y8)) ∧ (∀ y0 y1 y2 y3 y4 y5 y6 y7 y8 y9 y10, LeO (laws_docCount.l0 k y0 y1 y2 y3 y4 y5 y6 y7 y8 y9 y10) (laws_docCount.l0 (k + 1) y0 y1 y2 y3 y4 y5 y6 y7 y8 y9 y10)) ∧ (∀ y0 y1 y2 y3 y4 y5 y6 y7 y8 y9 y10 y11, LeO (laws_docCount.j1 k y0 y1 y2 y3 y4 y5 y6 y7 y8 y9 y10 y11) (laws_docCount.j1 (k + 1) y0 y1 y2 y3 y4 y5 y6 y7 y8 y9 y10 y11))
  | 0 => ⟨fun _ _ _ _ _ _ _ _ _ r h => by simp [laws_docCount.f] at h, fun _ _ _ _ _ _ _ _ _ _ _ r h => by simp [laws_docCount.l0] at h, fun _ _ _ _ _ _ _ _ _ _ _ _ r h => by simp [laws_docCount.j1] at h⟩
  | k + 1 => by
    obtain ⟨ih0, ih1, ih2⟩ := laws_docCount.mono_l k
    refine ⟨?_, ?_, ?_⟩
    · intro y0 y1 y2 y3 y4 y5 y6 y7 y8
      unfold laws_docCount.f
      have m0_ := @ih0; have m1_ := @ih1; have m2_ := @ih2; exact HW.mo
    · intro y0 y1 y2 y3 y4 y5 y6 y7 y8 y9 y10
      unfold laws_docCount.l0
      have m0_ := @ih0; have m1_ := @ih1; have m2_ := @ih2; exact HW.mo
    · intro y0 y1 y2 y3 y4 y5 y6 y7 y8 y9 y10 y11
      unfold laws_docCount.j1
      have m0_ := @ih0; have m1_ := @ih1; have m2_ := @ih2; exact HW.mo
theorem laws_docCount.mono : ∀ a0 a1 a2 a3 a4 a5 a6 a7 a8 k, LeO (laws_docCount.f k a0 a1 a2 a3 a4 a5 a6 a7 a8) (laws_docCount.f (k + 1) a0 a1 a2 a3 a4 a5 a6 a7 a8) := by
  intro a0 a1 a2 a3 a4 a5 a6 a7 a8 k
  obtain ⟨ih0, ih1, ih2⟩ := laws_docCount.mono_l k
  exact ih0 a0 a1 a2 a3 a4 a5 a6 a7 a8
theorem laws_docCount.calls (k : Nat) : ∀ (a0_0 : Int) (a0_1 : ByteArray) (a0_2 : ByteArray) (a0_3 : Int) (a0_4 : Int) (a0_5 : Int) (A0_6 : Option Addr) (c0_6 : Nat) (l0_6 : List Int) (A0_7 : Option Addr) (c0_7 : Nat) (l0_7 : List (S89)) (a1 : Int) (r : Int) (w : World) (hr0_6 : Kd.C (Kd.int .u8) w A0_6 l0_6.length l0_6) (hc0_6 : l0_6.length ≤ c0_6) (hr0_7 : Kd.C k89 w A0_7 l0_7.length l0_7) (hc0_7 : l0_7.length ≤ c0_7) (h : laws_docCount.f k a0_0 a0_1 a0_2 a0_3 a0_4 a0_5 l0_6 l0_7 a1 = some r),
    Calls Tryz.prog 11 #[.agg #[.int .i64 a0_0, .string a0_1, .string a0_2, .int .i64 a0_3, .int .u64 a0_4, .int .u64 a0_5, .slice A0_6 l0_6.length c0_6, .slice A0_7 l0_7.length c0_7], .int .i64 a1] w fun e w' => e = .returned (.int .i64 r) ∧ Below w.heap.size w w' := by
  induction k using Nat.strongRecOn with
  | _ k ih =>
  intro a0_0 a0_1 a0_2 a0_3 a0_4 a0_5 A0_6 c0_6 l0_6 A0_7 c0_7 l0_7 a1 r w hr0_6 hc0_6 hr0_7 hc0_7 h
  cases k with
  | zero => exact absurd h (by simp [laws_docCount.f])
  | succ k =>
  simp only [laws_docCount.f] at h
  have hu26 := Tryz.underlying26; have HR0_6 := Aside0.mk hr0_6; have HC0_6 := Aside0.mk hc0_6; clear hr0_6 hc0_6; have HR0_7 := Aside0.mk hr0_7; have HC0_7 := Aside0.mk hc0_7; clear hr0_7 hc0_7; have HB := Aside0.mk (Below.refl w.heap.size w); have H : (laws_docCount.l0 k a1 1 0 a0_0 a0_1 a0_2 a0_3 a0_4 a0_5 l0_6 l0_7) = some r := h; clear h; have H' := Aside0.mk H; clear H
  go_enter Tryz.func11, Tryz.ntmps11
  go_wp2_with (first | ((with_reducible refine gate_dst (N := 2) rfl ?_); refine box_event ?hg (N := 2) ?hd (cs := #[.int .i64 a0_0, .string a0_1, .string a0_2, .int .i64 a0_3, .int .u64 a0_4, .int .u64 a0_5, .slice A0_6 l0_6.length c0_6, .slice A0_7 l0_7.length c0_7]) (t := 26) ?hr ?_; (case hd => rfl); (case hg => rfl); (case hr => first | (go_simp; done) | (go_simp; rfl)); intro gb102 hg w3 hbox hb; have n0_ := Aside0.mk (below_step HW.zb hb); have n1_ := Aside0.mk (hbox); have n3_ := Aside0.mk ((by rw [hg]; exact (below_size HW.zb) : w.heap.size ≤ gb102)); clear HB; have HB := n0_; have BK102 := n1_; have GE102 := n3_; clear n0_ n1_ n3_; clear hb hbox hg))
  go_loopg [5, 6] k (fun kq v5 v6 w' => ∃ (x5_1 : Int) (x6_1 : Int), v5 = .int .i64 x5_1 ∧ v6 = .int .i64 x6_1 ∧ Aside0 (laws_docCount.l0 kq a1 x5_1 x6_1 a0_0 a0_1 a0_2 a0_3 a0_4 a0_5 l0_6 l0_7 = some r) ∧ Aside0 (kq ≤ k) ∧ Aside0 (w'.heap[gb102]? = some (.cells #[.int .i64 a0_0, .string a0_1, .string a0_2, .int .i64 a0_3, .int .u64 a0_4, .int .u64 a0_5, (.slice A0_6 l0_6.length c0_6), (.slice A0_7 l0_7.length c0_7)] 26 (0, 0))) ∧ Aside0 (Below w.heap.size w w'))
  case atStart => exact ⟨(1), (0), (by first | rfl | (simp; done) | (simp [*]; done)), HW.rs, H', ⟨Nat.le_refl _⟩, ⟨by (with_reducible repeat (first | refine blk_drewN ?_ _ | refine blk_drew ?_ | refine blk_alloc ?_ _)); exact BK102.out⟩, ⟨HW.zb⟩⟩
  case round =>
    clear H'
    (try clear c1); (try clear p2)
    obtain ⟨x5_1, x6_1, rfl, rfl, HA, HK1, BK102, HB⟩ := hrel
    cases gk with
    | zero => exact absurd HA.out (by simp [laws_docCount.l0])
    | succ k1 =>
      have H := HA.out; clear HA
      simp only [laws_docCount.l0] at H
      have HC4 := Aside0.mk H; clear H
      go_upto_region 3 with (fail)
      go_cut [16] (fun v16 wc => ∃ (kq : Nat) (x16_3 : Bool), v16 = .bool x16_3 ∧ Aside0 (laws_docCount.j1 kq a1 x5_1 x6_1 x16_3 a0_0 a0_1 a0_2 a0_3 a0_4 a0_5 l0_6 l0_7 = some r) ∧ Aside0 (kq ≤ k1) ∧ Aside0 (wc.heap[gb102]? = some (.cells #[.int .i64 a0_0, .string a0_1, .string a0_2, .int .i64 a0_3, .int .u64 a0_4, .int .u64 a0_5, (.slice A0_6 l0_6.length c0_6), (.slice A0_7 l0_7.length c0_7)] 26 (0, 0))) ∧ Aside0 (Below w.heap.size w wc))
      case first =>
        have H := HC4.out; clear HC4
        by_cases c5 : x6_1 < (l0_7.length : Int)
        · rw [if_pos c5] at H
          have c5b0 : decide (x6_1 < (l0_7.length : Int)) = true := decide_eq_true c5; clear c5
          (first | rw [c5b0] | (simp only [i64_w, i32_w]; rw [c5b0]) | skip)
          as_aux_lemma =>
            have H' := Aside0.mk H; clear H; obtain ⟨hcz6_0, hcz6_1, hcz6_2, hcz6_3, hcz6_4, hcz6_5, hcz6_6, hcz6_7⟩ := HW.k8 BK102.out
            go_wp2
            go_meet
            case rel => exact ⟨_, (decide (x5_1 ≤ a1)), HW.rs, H', ⟨by have := HK1.out; first | omega | exact Nat.le_refl _⟩, ⟨by (with_reducible repeat (first | refine blk_drewN ?_ _ | refine blk_drew ?_ | refine blk_alloc ?_ _)); exact BK102.out⟩, ⟨HW.zb⟩⟩
        rw [if_neg c5] at H; have c5b0 : decide (x6_1 < (l0_7.length : Int)) = false := decide_eq_false c5; clear c5
        (first | rw [c5b0] | (simp only [i64_w, i32_w]; rw [c5b0]) | skip)
        as_aux_lemma =>
          have H' := Aside0.mk H; clear H; obtain ⟨hcz7_0, hcz7_1, hcz7_2, hcz7_3, hcz7_4, hcz7_5, hcz7_6, hcz7_7⟩ := HW.k8 BK102.out
          go_wp2
          go_meet
          case rel => exact ⟨_, (false), HW.rs, H', ⟨by have := HK1.out; first | omega | exact Nat.le_refl _⟩, ⟨by (with_reducible repeat (first | refine blk_drewN ?_ _ | refine blk_drew ?_ | refine blk_alloc ?_ _)); exact BK102.out⟩, ⟨HW.zb⟩⟩
      case rest =>
        clear HC4
        (try clear c1); (try clear p2); (try clear c5); (try clear c5b0); (try clear hcz6_0 hcz6_1 hcz6_2 hcz6_3 hcz6_4 hcz6_5 hcz6_6 hcz6_7); (try clear hcz7_0 hcz7_1 hcz7_2 hcz7_3 hcz7_4 hcz7_5 hcz7_6 hcz7_7); (try clear p2)
        obtain ⟨kq, x16_3, rfl, HA, HJ3, BK102, HB⟩ := hcut
        cases kq with
        | zero => exact absurd HA.out (by simp [laws_docCount.j1])
        | succ kj3 =>
          have H := HA.out; clear HA
          simp only [laws_docCount.j1] at H
          by_cases c8 : x16_3 = true
          rotate_left
          · replace c8 := Bool.eq_false_iff.mpr c8
            subst c8
            have H1 : (some x5_1) = some r := by rw [if_neg (show ¬ (false = true) by decide)] at H; exact H
            clear H; have H := H1; clear H1
            as_aux_lemma =>
              obtain rfl := Option.some.inj H
              go_wp2
              go_ret
              exact ⟨rfl, HW.zb⟩
          subst c8
          have H1 : (if 0 ≤ x6_1 then (if x6_1 < (l0_7.length : Int) then ((laws_docCount.f kj3 ((rd_T89 l0_7 x6_1).f1.f0) ((rd_T89 l0_7 x6_1).f1.f1) ((rd_T89 l0_7 x6_1).f1.f2) ((rd_T89 l0_7 x6_1).f1.f3) ((rd_T89 l0_7 x6_1).f1.f4) ((rd_T89 l0_7 x6_1).f1.f5) ((rd_T89 l0_7 x6_1).f1.f6) ((rd_T89 l0_7 x6_1).f1.f7) (wrap64 (a1 - x5_1))).bind fun t104 => (laws_docCount.l0 kj3 a1 (wrap64 (x5_1 + t104)) (wrap64 (x6_1 + 1)) a0_0 a0_1 a0_2 a0_3 a0_4 a0_5 l0_6 l0_7)) else (none)) else (none)) = some r := by rw [if_pos rfl] at H; exact H
          clear H; have H := H1; clear H1
          by_cases c9 : 0 ≤ x6_1
          rotate_left
          · rw [if_neg c9] at H
            exact absurd H (by simp)
          rw [if_pos c9] at H; have c9b0 : decide (0 ≤ x6_1) = true := decide_eq_true c9; clear c9
          by_cases c10 : x6_1 < (l0_7.length : Int)
          rotate_left
          · rw [if_neg c10] at H
            exact absurd H (by simp)
          rw [if_pos c10] at H; have c10b0 : decide (x6_1 < (l0_7.length : Int)) = true := decide_eq_true c10; clear c10; replace H := Option.bind_eq_some_iff.mp H; obtain ⟨t104, A110, H⟩ := H; replace H : (laws_docCount.l0 kj3 a1 (wrap64 (x5_1 + t104)) (wrap64 (x6_1 + 1)) a0_0 a0_1 a0_2 a0_3 a0_4 a0_5 l0_6 l0_7) = some r := H; have A11 := Aside0.mk A110; clear A110
          as_aux_lemma =>
            have H' := Aside0.mk H; clear H; obtain ⟨hcz12_0, hcz12_1, hcz12_2, hcz12_3, hcz12_4, hcz12_5, hcz12_6, hcz12_7⟩ := HW.k8 BK102.out
            have p103 : 0 ≤ (x6_1 : Int) := HW.od
            have q103 : x6_1 < (l0_7.length : Int) := HW.od
            obtain ⟨ad103, A103_7, c103_7, A103_8, c103_8, e103, hx103_0, hx103_1, hx103_2, hx103_3, hx103_4, hx103_5, hx103_6, hx103_7, hx103_8, hl103_7, hi103_7, hl103_8, hi103_8⟩ := at_T89 HR0_7.out x6_1 p103 q103
            cases e103
            replace hx103_0 := (HB.out.cell (World.block_lt_of_cell? w _ hx103_0)).trans hx103_0; replace hx103_1 := (HB.out.cell (World.block_lt_of_cell? w _ hx103_1)).trans hx103_1; replace hx103_2 := (HB.out.cell (World.block_lt_of_cell? w _ hx103_2)).trans hx103_2; replace hx103_3 := (HB.out.cell (World.block_lt_of_cell? w _ hx103_3)).trans hx103_3; replace hx103_4 := (HB.out.cell (World.block_lt_of_cell? w _ hx103_4)).trans hx103_4; replace hx103_5 := (HB.out.cell (World.block_lt_of_cell? w _ hx103_5)).trans hx103_5; replace hx103_6 := (HB.out.cell (World.block_lt_of_cell? w _ hx103_6)).trans hx103_6; replace hx103_7 := (HB.out.cell (World.block_lt_of_cell? w _ hx103_7)).trans hx103_7; replace hx103_8 := (HB.out.cell (World.block_lt_of_cell? w _ hx103_8)).trans hx103_8; have HR103_7 := Aside0.mk hi103_7; have HC103_7 := Aside0.mk hl103_7; clear hi103_7 hl103_7; have HR103_8 := Aside0.mk hi103_8; have HC103_8 := Aside0.mk hl103_8; clear hi103_8 hl103_8; replace p103 := eq_true p103; replace q103 := eq_true q103
            go_wp2_with (first | ((with_reducible refine gate_callee (f := 11) rfl ?_); refine HW.gz (some 29) rfl rfl Tryz.func11 (by kernel_rfl) rfl #[.agg #[.int .i64 ((rd_T89 l0_7 x6_1).f1.f0), .string ((rd_T89 l0_7 x6_1).f1.f1), .string ((rd_T89 l0_7 x6_1).f1.f2), .int .i64 ((rd_T89 l0_7 x6_1).f1.f3), .int .u64 ((rd_T89 l0_7 x6_1).f1.f4), .int .u64 ((rd_T89 l0_7 x6_1).f1.f5), .slice A103_7 ((rd_T89 l0_7 x6_1).f1.f6).length c103_7, .slice A103_8 ((rd_T89 l0_7 x6_1).f1.f7).length c103_8], .int .i64 (wrap64 (a1 - x5_1))] rfl ?_; (with_reducible refine (ih kj3 (by have := HK1.out; have := HJ3.out; omega) ((rd_T89 l0_7 x6_1).f1.f0) ((rd_T89 l0_7 x6_1).f1.f1) ((rd_T89 l0_7 x6_1).f1.f2) ((rd_T89 l0_7 x6_1).f1.f3) ((rd_T89 l0_7 x6_1).f1.f4) ((rd_T89 l0_7 x6_1).f1.f5) _ _ ((rd_T89 l0_7 x6_1).f1.f6) _ _ ((rd_T89 l0_7 x6_1).f1.f7) (wrap64 (a1 - x5_1)) t104 _ ?side1 ?side2 ?side3 ?side4 A11.out).mono ?_); (case side1 => repeat (first | exact (Kd.C_below HR103_7.out HB.out) | (with_reducible refine Kd.C_alloc ?_ _) | (with_reducible refine Kd.C_drewN ?_ _) | (with_reducible refine Kd.C_drew ?_))); (case side2 => exact HC103_7.out); (case side3 => repeat (first | exact (Kd.C_below HR103_8.out HB.out) | (with_reducible refine Kd.C_alloc ?_ _) | (with_reducible refine Kd.C_drewN ?_ _) | (with_reducible refine Kd.C_drew ?_))); (case side4 => exact HC103_8.out); rintro e w13 ⟨rfl, hb⟩; refine ⟨_, rfl, ?_⟩; replace BK102 := Aside0.mk (blk_below (HW.zB BK102.out) hb); replace HB := Aside0.mk (below_step HW.zb hb); (try clear hb)))
            go_roundg kj3
            case measure => have := HK1.out; have := HJ3.out; omega
            case rel => exact ⟨(wrap64 (x5_1 + t104)), (wrap64 (x6_1 + 1)), (by first | rfl | (simp; done) | (simp [*]; done)), HW.rs, H', ⟨by have := HK1.out; have := HJ3.out; omega⟩, ⟨by (with_reducible repeat (first | refine blk_drewN ?_ _ | refine blk_drew ?_ | refine blk_alloc ?_ _)); exact BK102.out⟩, ⟨HW.zb⟩⟩
def spec_DocKnown.f (a0 : Int) : Option (Bool) := if a0 ≥ 1 then (if a0 ≤ 19 then (some true) else (if a0 = 255 then (some true) else (some (a0 == 127)))) else (if a0 = 255 then (some true) else (some (a0 == 127)))
theorem spec_DocKnown.calls (a0 : Int) (r : Bool) (w : World) (h : spec_DocKnown.f a0 = some r) :
    Calls Tryz.prog 14 #[.int .i64 a0] w fun e w' => e = .returned (.bool r) ∧ Drawn0 w w' := by
  have H : (if a0 ≥ 1 then (if a0 ≤ 19 then (some true) else (if a0 = 255 then (some true) else (some (a0 == 127)))) else (if a0 = 255 then (some true) else (some (a0 == 127)))) = some r := h; clear h
  by_cases c2 : a0 ≥ 1
  rotate_left
  · rw [if_neg c2] at H
    have c2b0 : decide (1 ≤ a0) = false := decide_eq_false c2; clear c2
    by_cases c5 : a0 = 255
    · rw [if_pos c5] at H
      have c5b0 : (a0 == 255) = true := beq_iff_eq.mpr c5; have c5b1 : (a0 != 255) = false := bne_eq_false_iff_eq.mpr c5; clear c5
      as_aux_lemma =>
        obtain rfl := Option.some.inj H
        go_enter Tryz.func14, Tryz.ntmps14
        go_wp2
        go_ret
        exact ⟨by first | rfl | (simp; done) | (simp [*]; done), by repeat (first | exact Drawn0.refl _ | apply Drawn0.step)⟩
    rw [if_neg c5] at H; have c5b0 : (a0 == 255) = false := beq_eq_false_iff_ne.mpr c5; have c5b1 : (a0 != 255) = true := bne_iff_ne.mpr c5
    as_aux_lemma =>
      obtain rfl := Option.some.inj H
      go_enter Tryz.func14, Tryz.ntmps14
      go_wp2
      go_ret
      exact ⟨by first | rfl | (simp; done) | (simp [*]; done), by repeat (first | exact Drawn0.refl _ | apply Drawn0.step)⟩
  rw [if_pos c2] at H; have c2b0 : decide (1 ≤ a0) = true := decide_eq_true c2; clear c2
  by_cases c3 : a0 ≤ 19
  · rw [if_pos c3] at H
    have c3b0 : decide (a0 ≤ 19) = true := decide_eq_true c3; clear c3
    as_aux_lemma =>
      obtain rfl := Option.some.inj H
      go_enter Tryz.func14, Tryz.ntmps14
      go_wp2
      go_ret
      exact ⟨by first | rfl | (simp; done) | (simp [*]; done), by repeat (first | exact Drawn0.refl _ | apply Drawn0.step)⟩
  rw [if_neg c3] at H; have c3b0 : decide (a0 ≤ 19) = false := decide_eq_false c3; clear c3
  by_cases c4 : a0 = 255
  · rw [if_pos c4] at H
    have c4b0 : (a0 == 255) = true := beq_iff_eq.mpr c4; have c4b1 : (a0 != 255) = false := bne_eq_false_iff_eq.mpr c4; clear c4
    as_aux_lemma =>
      obtain rfl := Option.some.inj H
      go_enter Tryz.func14, Tryz.ntmps14
      go_wp2
      go_ret
      exact ⟨by first | rfl | (simp; done) | (simp [*]; done), by repeat (first | exact Drawn0.refl _ | apply Drawn0.step)⟩
  rw [if_neg c4] at H; have c4b0 : (a0 == 255) = false := beq_eq_false_iff_ne.mpr c4; have c4b1 : (a0 != 255) = true := bne_iff_ne.mpr c4
  as_aux_lemma =>
    obtain rfl := Option.some.inj H
    go_enter Tryz.func14, Tryz.ntmps14
    go_wp2
    go_ret
    exact ⟨by first | rfl | (simp; done) | (simp [*]; done), by repeat (first | exact Drawn0.refl _ | apply Drawn0.step)⟩
def bareText (k : Int) : Bool := k == 2 || k == 11 || k == 12 || k == 13 || k == 14 || k == 15
def bareMore (k : Int) : Bool := k == 11
def bareN (k : Int) : Bool := k == 5 || k == 8 || k == 9 || k == 16 || k == 18
def bareBits (k : Int) : Bool := k == 1 || k == 17 || k == 19
def bareHigh (k : Int) : Bool := k == 19
def bareBy (k : Int) : Bool := k == 5 || k == 7 || k == 12
def bareKids (k : Int) : Bool := k == 3 || k == 4 || k == 15
def bareV (k n bits high : Int) (text more : ByteArray) (vB vK : Value) : Value := .agg #[.int .i64 k, .string (if bareText k = true then ⟨#[]⟩ else text), .string (if bareMore k = true then ⟨#[]⟩ else more), .int .i64 (if bareN k = true then 0 else n), .int .u64 (if bareBits k = true then 0 else bits), .int .u64 (if bareHigh k = true then 0 else high), if bareBy k = true then .slice none 0 0 else vB, if bareKids k = true then .slice none 0 0 else vK]
theorem docBare_1 (n bits high : Int) (text more : ByteArray) (AB AK : Option Addr) (nB cB nK cK : Nat) (w : World) : Calls Tryz.prog 64 #[.agg #[.int .i64 1, .string text, .string more, .int .i64 n, .int .u64 bits, .int .u64 high, .slice AB nB cB, .slice AK nK cK]] w fun e w' => e = .returned (bareV 1 n bits high text more (.slice AB nB cB) (.slice AK nK cK)) ∧ Below w.heap.size w w' := by
  have hu := Tryz.underlying26
  go_enter Tryz.func64, Tryz.ntmps64
  go_wp2
  exact bodyPost_ret (v := .agg #[.int .i64 1, .string text, .string more, .int .i64 n, .int .u64 0, .int .u64 high, .slice AB nB cB, .slice AK nK cK]) (by simp [results, Tryz.results64, go_sem]) rfl ⟨by rfl, by first | exact (((Below.refl _ _).alloc (Nat.le_refl _) _).alloc (by simp) _) | (repeat (first | exact (((Below.refl _ _).alloc (Nat.le_refl _) _).alloc (by simp) _) | (refine Below.setCell ?_ (by simp) _)))⟩
theorem docBare_2 (n bits high : Int) (text more : ByteArray) (AB AK : Option Addr) (nB cB nK cK : Nat) (w : World) : Calls Tryz.prog 64 #[.agg #[.int .i64 2, .string text, .string more, .int .i64 n, .int .u64 bits, .int .u64 high, .slice AB nB cB, .slice AK nK cK]] w fun e w' => e = .returned (bareV 2 n bits high text more (.slice AB nB cB) (.slice AK nK cK)) ∧ Below w.heap.size w w' := by
  have hu := Tryz.underlying26
  go_enter Tryz.func64, Tryz.ntmps64
  go_wp2
  exact bodyPost_ret (v := .agg #[.int .i64 2, .string ⟨#[]⟩, .string more, .int .i64 n, .int .u64 bits, .int .u64 high, .slice AB nB cB, .slice AK nK cK]) (by simp [results, Tryz.results64, go_sem]) rfl ⟨by rfl, by first | exact (((Below.refl _ _).alloc (Nat.le_refl _) _).alloc (by simp) _) | (repeat (first | exact (((Below.refl _ _).alloc (Nat.le_refl _) _).alloc (by simp) _) | (refine Below.setCell ?_ (by simp) _)))⟩
theorem docBare_3 (n bits high : Int) (text more : ByteArray) (AB AK : Option Addr) (nB cB nK cK : Nat) (w : World) : Calls Tryz.prog 64 #[.agg #[.int .i64 3, .string text, .string more, .int .i64 n, .int .u64 bits, .int .u64 high, .slice AB nB cB, .slice AK nK cK]] w fun e w' => e = .returned (bareV 3 n bits high text more (.slice AB nB cB) (.slice AK nK cK)) ∧ Below w.heap.size w w' := by
  have hu := Tryz.underlying26
  go_enter Tryz.func64, Tryz.ntmps64
  go_wp2
  exact bodyPost_ret (v := .agg #[.int .i64 3, .string text, .string more, .int .i64 n, .int .u64 bits, .int .u64 high, .slice AB nB cB, .slice none 0 0]) (by simp [results, Tryz.results64, go_sem]) rfl ⟨by rfl, by first | exact (((Below.refl _ _).alloc (Nat.le_refl _) _).alloc (by simp) _) | (repeat (first | exact (((Below.refl _ _).alloc (Nat.le_refl _) _).alloc (by simp) _) | (refine Below.setCell ?_ (by simp) _)))⟩
theorem docBare_4 (n bits high : Int) (text more : ByteArray) (AB AK : Option Addr) (nB cB nK cK : Nat) (w : World) : Calls Tryz.prog 64 #[.agg #[.int .i64 4, .string text, .string more, .int .i64 n, .int .u64 bits, .int .u64 high, .slice AB nB cB, .slice AK nK cK]] w fun e w' => e = .returned (bareV 4 n bits high text more (.slice AB nB cB) (.slice AK nK cK)) ∧ Below w.heap.size w w' := by
  have hu := Tryz.underlying26
  go_enter Tryz.func64, Tryz.ntmps64
  go_wp2
  exact bodyPost_ret (v := .agg #[.int .i64 4, .string text, .string more, .int .i64 n, .int .u64 bits, .int .u64 high, .slice AB nB cB, .slice none 0 0]) (by simp [results, Tryz.results64, go_sem]) rfl ⟨by rfl, by first | exact (((Below.refl _ _).alloc (Nat.le_refl _) _).alloc (by simp) _) | (repeat (first | exact (((Below.refl _ _).alloc (Nat.le_refl _) _).alloc (by simp) _) | (refine Below.setCell ?_ (by simp) _)))⟩
theorem docBare_5 (n bits high : Int) (text more : ByteArray) (AB AK : Option Addr) (nB cB nK cK : Nat) (w : World) : Calls Tryz.prog 64 #[.agg #[.int .i64 5, .string text, .string more, .int .i64 n, .int .u64 bits, .int .u64 high, .slice AB nB cB, .slice AK nK cK]] w fun e w' => e = .returned (bareV 5 n bits high text more (.slice AB nB cB) (.slice AK nK cK)) ∧ Below w.heap.size w w' := by
  have hu := Tryz.underlying26
  go_enter Tryz.func64, Tryz.ntmps64
  go_wp2
  exact bodyPost_ret (v := .agg #[.int .i64 5, .string text, .string more, .int .i64 0, .int .u64 bits, .int .u64 high, .slice none 0 0, .slice AK nK cK]) (by simp [results, Tryz.results64, go_sem]) rfl ⟨by rfl, by first | exact (((Below.refl _ _).alloc (Nat.le_refl _) _).alloc (by simp) _) | (repeat (first | exact (((Below.refl _ _).alloc (Nat.le_refl _) _).alloc (by simp) _) | (refine Below.setCell ?_ (by simp) _)))⟩
theorem docBare_7 (n bits high : Int) (text more : ByteArray) (AB AK : Option Addr) (nB cB nK cK : Nat) (w : World) : Calls Tryz.prog 64 #[.agg #[.int .i64 7, .string text, .string more, .int .i64 n, .int .u64 bits, .int .u64 high, .slice AB nB cB, .slice AK nK cK]] w fun e w' => e = .returned (bareV 7 n bits high text more (.slice AB nB cB) (.slice AK nK cK)) ∧ Below w.heap.size w w' := by
  have hu := Tryz.underlying26
  go_enter Tryz.func64, Tryz.ntmps64
  go_wp2
  exact bodyPost_ret (v := .agg #[.int .i64 7, .string text, .string more, .int .i64 n, .int .u64 bits, .int .u64 high, .slice none 0 0, .slice AK nK cK]) (by simp [results, Tryz.results64, go_sem]) rfl ⟨by rfl, by first | exact (((Below.refl _ _).alloc (Nat.le_refl _) _).alloc (by simp) _) | (repeat (first | exact (((Below.refl _ _).alloc (Nat.le_refl _) _).alloc (by simp) _) | (refine Below.setCell ?_ (by simp) _)))⟩
theorem docBare_8 (n bits high : Int) (text more : ByteArray) (AB AK : Option Addr) (nB cB nK cK : Nat) (w : World) : Calls Tryz.prog 64 #[.agg #[.int .i64 8, .string text, .string more, .int .i64 n, .int .u64 bits, .int .u64 high, .slice AB nB cB, .slice AK nK cK]] w fun e w' => e = .returned (bareV 8 n bits high text more (.slice AB nB cB) (.slice AK nK cK)) ∧ Below w.heap.size w w' := by
  have hu := Tryz.underlying26
  go_enter Tryz.func64, Tryz.ntmps64
  go_wp2
  exact bodyPost_ret (v := .agg #[.int .i64 8, .string text, .string more, .int .i64 0, .int .u64 bits, .int .u64 high, .slice AB nB cB, .slice AK nK cK]) (by simp [results, Tryz.results64, go_sem]) rfl ⟨by rfl, by first | exact (((Below.refl _ _).alloc (Nat.le_refl _) _).alloc (by simp) _) | (repeat (first | exact (((Below.refl _ _).alloc (Nat.le_refl _) _).alloc (by simp) _) | (refine Below.setCell ?_ (by simp) _)))⟩
theorem docBare_9 (n bits high : Int) (text more : ByteArray) (AB AK : Option Addr) (nB cB nK cK : Nat) (w : World) : Calls Tryz.prog 64 #[.agg #[.int .i64 9, .string text, .string more, .int .i64 n, .int .u64 bits, .int .u64 high, .slice AB nB cB, .slice AK nK cK]] w fun e w' => e = .returned (bareV 9 n bits high text more (.slice AB nB cB) (.slice AK nK cK)) ∧ Below w.heap.size w w' := by
  have hu := Tryz.underlying26
  go_enter Tryz.func64, Tryz.ntmps64
  go_wp2
  exact bodyPost_ret (v := .agg #[.int .i64 9, .string text, .string more, .int .i64 0, .int .u64 bits, .int .u64 high, .slice AB nB cB, .slice AK nK cK]) (by simp [results, Tryz.results64, go_sem]) rfl ⟨by rfl, by first | exact (((Below.refl _ _).alloc (Nat.le_refl _) _).alloc (by simp) _) | (repeat (first | exact (((Below.refl _ _).alloc (Nat.le_refl _) _).alloc (by simp) _) | (refine Below.setCell ?_ (by simp) _)))⟩
theorem docBare_11 (n bits high : Int) (text more : ByteArray) (AB AK : Option Addr) (nB cB nK cK : Nat) (w : World) : Calls Tryz.prog 64 #[.agg #[.int .i64 11, .string text, .string more, .int .i64 n, .int .u64 bits, .int .u64 high, .slice AB nB cB, .slice AK nK cK]] w fun e w' => e = .returned (bareV 11 n bits high text more (.slice AB nB cB) (.slice AK nK cK)) ∧ Below w.heap.size w w' := by
  have hu := Tryz.underlying26
  go_enter Tryz.func64, Tryz.ntmps64
  go_wp2
  exact bodyPost_ret (v := .agg #[.int .i64 11, .string ⟨#[]⟩, .string ⟨#[]⟩, .int .i64 n, .int .u64 bits, .int .u64 high, .slice AB nB cB, .slice AK nK cK]) (by simp [results, Tryz.results64, go_sem]) rfl ⟨by rfl, by first | exact (((Below.refl _ _).alloc (Nat.le_refl _) _).alloc (by simp) _) | (repeat (first | exact (((Below.refl _ _).alloc (Nat.le_refl _) _).alloc (by simp) _) | (refine Below.setCell ?_ (by simp) _)))⟩
theorem docBare_12 (n bits high : Int) (text more : ByteArray) (AB AK : Option Addr) (nB cB nK cK : Nat) (w : World) : Calls Tryz.prog 64 #[.agg #[.int .i64 12, .string text, .string more, .int .i64 n, .int .u64 bits, .int .u64 high, .slice AB nB cB, .slice AK nK cK]] w fun e w' => e = .returned (bareV 12 n bits high text more (.slice AB nB cB) (.slice AK nK cK)) ∧ Below w.heap.size w w' := by
  have hu := Tryz.underlying26
  go_enter Tryz.func64, Tryz.ntmps64
  go_wp2
  exact bodyPost_ret (v := .agg #[.int .i64 12, .string ⟨#[]⟩, .string more, .int .i64 n, .int .u64 bits, .int .u64 high, .slice none 0 0, .slice AK nK cK]) (by simp [results, Tryz.results64, go_sem]) rfl ⟨by rfl, by first | exact (((Below.refl _ _).alloc (Nat.le_refl _) _).alloc (by simp) _) | (repeat (first | exact (((Below.refl _ _).alloc (Nat.le_refl _) _).alloc (by simp) _) | (refine Below.setCell ?_ (by simp) _)))⟩
theorem docBare_13 (n bits high : Int) (text more : ByteArray) (AB AK : Option Addr) (nB cB nK cK : Nat) (w : World) : Calls Tryz.prog 64 #[.agg #[.int .i64 13, .string text, .string more, .int .i64 n, .int .u64 bits, .int .u64 high, .slice AB nB cB, .slice AK nK cK]] w fun e w' => e = .returned (bareV 13 n bits high text more (.slice AB nB cB) (.slice AK nK cK)) ∧ Below w.heap.size w w' := by
  have hu := Tryz.underlying26
  go_enter Tryz.func64, Tryz.ntmps64
  go_wp2
  exact bodyPost_ret (v := .agg #[.int .i64 13, .string ⟨#[]⟩, .string more, .int .i64 n, .int .u64 bits, .int .u64 high, .slice AB nB cB, .slice AK nK cK]) (by simp [results, Tryz.results64, go_sem]) rfl ⟨by rfl, by first | exact (((Below.refl _ _).alloc (Nat.le_refl _) _).alloc (by simp) _) | (repeat (first | exact (((Below.refl _ _).alloc (Nat.le_refl _) _).alloc (by simp) _) | (refine Below.setCell ?_ (by simp) _)))⟩
theorem docBare_14 (n bits high : Int) (text more : ByteArray) (AB AK : Option Addr) (nB cB nK cK : Nat) (w : World) : Calls Tryz.prog 64 #[.agg #[.int .i64 14, .string text, .string more, .int .i64 n, .int .u64 bits, .int .u64 high, .slice AB nB cB, .slice AK nK cK]] w fun e w' => e = .returned (bareV 14 n bits high text more (.slice AB nB cB) (.slice AK nK cK)) ∧ Below w.heap.size w w' := by
  have hu := Tryz.underlying26
  go_enter Tryz.func64, Tryz.ntmps64
  go_wp2
  exact bodyPost_ret (v := .agg #[.int .i64 14, .string ⟨#[]⟩, .string more, .int .i64 n, .int .u64 bits, .int .u64 high, .slice AB nB cB, .slice AK nK cK]) (by simp [results, Tryz.results64, go_sem]) rfl ⟨by rfl, by first | exact (((Below.refl _ _).alloc (Nat.le_refl _) _).alloc (by simp) _) | (repeat (first | exact (((Below.refl _ _).alloc (Nat.le_refl _) _).alloc (by simp) _) | (refine Below.setCell ?_ (by simp) _)))⟩
theorem docBare_15 (n bits high : Int) (text more : ByteArray) (AB AK : Option Addr) (nB cB nK cK : Nat) (w : World) : Calls Tryz.prog 64 #[.agg #[.int .i64 15, .string text, .string more, .int .i64 n, .int .u64 bits, .int .u64 high, .slice AB nB cB, .slice AK nK cK]] w fun e w' => e = .returned (bareV 15 n bits high text more (.slice AB nB cB) (.slice AK nK cK)) ∧ Below w.heap.size w w' := by
  have hu := Tryz.underlying26
  go_enter Tryz.func64, Tryz.ntmps64
  go_wp2
  exact bodyPost_ret (v := .agg #[.int .i64 15, .string ⟨#[]⟩, .string more, .int .i64 n, .int .u64 bits, .int .u64 high, .slice AB nB cB, .slice none 0 0]) (by simp [results, Tryz.results64, go_sem]) rfl ⟨by rfl, by first | exact (((Below.refl _ _).alloc (Nat.le_refl _) _).alloc (by simp) _) | (repeat (first | exact (((Below.refl _ _).alloc (Nat.le_refl _) _).alloc (by simp) _) | (refine Below.setCell ?_ (by simp) _)))⟩
theorem docBare_16 (n bits high : Int) (text more : ByteArray) (AB AK : Option Addr) (nB cB nK cK : Nat) (w : World) : Calls Tryz.prog 64 #[.agg #[.int .i64 16, .string text, .string more, .int .i64 n, .int .u64 bits, .int .u64 high, .slice AB nB cB, .slice AK nK cK]] w fun e w' => e = .returned (bareV 16 n bits high text more (.slice AB nB cB) (.slice AK nK cK)) ∧ Below w.heap.size w w' := by
  have hu := Tryz.underlying26
  go_enter Tryz.func64, Tryz.ntmps64
  go_wp2
  exact bodyPost_ret (v := .agg #[.int .i64 16, .string text, .string more, .int .i64 0, .int .u64 bits, .int .u64 high, .slice AB nB cB, .slice AK nK cK]) (by simp [results, Tryz.results64, go_sem]) rfl ⟨by rfl, by first | exact (((Below.refl _ _).alloc (Nat.le_refl _) _).alloc (by simp) _) | (repeat (first | exact (((Below.refl _ _).alloc (Nat.le_refl _) _).alloc (by simp) _) | (refine Below.setCell ?_ (by simp) _)))⟩
theorem docBare_17 (n bits high : Int) (text more : ByteArray) (AB AK : Option Addr) (nB cB nK cK : Nat) (w : World) : Calls Tryz.prog 64 #[.agg #[.int .i64 17, .string text, .string more, .int .i64 n, .int .u64 bits, .int .u64 high, .slice AB nB cB, .slice AK nK cK]] w fun e w' => e = .returned (bareV 17 n bits high text more (.slice AB nB cB) (.slice AK nK cK)) ∧ Below w.heap.size w w' := by
  have hu := Tryz.underlying26
  go_enter Tryz.func64, Tryz.ntmps64
  go_wp2
  exact bodyPost_ret (v := .agg #[.int .i64 17, .string text, .string more, .int .i64 n, .int .u64 0, .int .u64 high, .slice AB nB cB, .slice AK nK cK]) (by simp [results, Tryz.results64, go_sem]) rfl ⟨by rfl, by first | exact (((Below.refl _ _).alloc (Nat.le_refl _) _).alloc (by simp) _) | (repeat (first | exact (((Below.refl _ _).alloc (Nat.le_refl _) _).alloc (by simp) _) | (refine Below.setCell ?_ (by simp) _)))⟩
theorem docBare_18 (n bits high : Int) (text more : ByteArray) (AB AK : Option Addr) (nB cB nK cK : Nat) (w : World) : Calls Tryz.prog 64 #[.agg #[.int .i64 18, .string text, .string more, .int .i64 n, .int .u64 bits, .int .u64 high, .slice AB nB cB, .slice AK nK cK]] w fun e w' => e = .returned (bareV 18 n bits high text more (.slice AB nB cB) (.slice AK nK cK)) ∧ Below w.heap.size w w' := by
  have hu := Tryz.underlying26
  go_enter Tryz.func64, Tryz.ntmps64
  go_wp2
  exact bodyPost_ret (v := .agg #[.int .i64 18, .string text, .string more, .int .i64 0, .int .u64 bits, .int .u64 high, .slice AB nB cB, .slice AK nK cK]) (by simp [results, Tryz.results64, go_sem]) rfl ⟨by rfl, by first | exact (((Below.refl _ _).alloc (Nat.le_refl _) _).alloc (by simp) _) | (repeat (first | exact (((Below.refl _ _).alloc (Nat.le_refl _) _).alloc (by simp) _) | (refine Below.setCell ?_ (by simp) _)))⟩
theorem docBare_19 (n bits high : Int) (text more : ByteArray) (AB AK : Option Addr) (nB cB nK cK : Nat) (w : World) : Calls Tryz.prog 64 #[.agg #[.int .i64 19, .string text, .string more, .int .i64 n, .int .u64 bits, .int .u64 high, .slice AB nB cB, .slice AK nK cK]] w fun e w' => e = .returned (bareV 19 n bits high text more (.slice AB nB cB) (.slice AK nK cK)) ∧ Below w.heap.size w w' := by
  have hu := Tryz.underlying26
  go_enter Tryz.func64, Tryz.ntmps64
  go_wp2
  exact bodyPost_ret (v := .agg #[.int .i64 19, .string text, .string more, .int .i64 n, .int .u64 0, .int .u64 0, .slice AB nB cB, .slice AK nK cK]) (by simp [results, Tryz.results64, go_sem]) rfl ⟨by rfl, by first | exact (((Below.refl _ _).alloc (Nat.le_refl _) _).alloc (by simp) _) | (repeat (first | exact (((Below.refl _ _).alloc (Nat.le_refl _) _).alloc (by simp) _) | (refine Below.setCell ?_ (by simp) _)))⟩
theorem docBare_other (k : Int) (n bits high : Int) (text more : ByteArray) (AB AK : Option Addr) (nB cB nK cK : Nat) (w : World) (hk : ∀ c ∈ [(1 : Int), (2 : Int), (3 : Int), (4 : Int), (5 : Int), (7 : Int), (8 : Int), (9 : Int), (11 : Int), (12 : Int), (13 : Int), (14 : Int), (15 : Int), (16 : Int), (17 : Int), (18 : Int), (19 : Int)], k ≠ c) : Calls Tryz.prog 64 #[.agg #[.int .i64 k, .string text, .string more, .int .i64 n, .int .u64 bits, .int .u64 high, .slice AB nB cB, .slice AK nK cK]] w fun e w' => e = .returned (bareV k n bits high text more (.slice AB nB cB) (.slice AK nK cK)) ∧ Below w.heap.size w w' := by
  have hu := Tryz.underlying26
  have e1 : (k == 1) = false := beq_eq_false_iff_ne.2 (hk 1 (by simp))
  have e2 : (k == 2) = false := beq_eq_false_iff_ne.2 (hk 2 (by simp))
  have e3 : (k == 3) = false := beq_eq_false_iff_ne.2 (hk 3 (by simp))
  have e4 : (k == 4) = false := beq_eq_false_iff_ne.2 (hk 4 (by simp))
  have e5 : (k == 5) = false := beq_eq_false_iff_ne.2 (hk 5 (by simp))
  have e7 : (k == 7) = false := beq_eq_false_iff_ne.2 (hk 7 (by simp))
  have e8 : (k == 8) = false := beq_eq_false_iff_ne.2 (hk 8 (by simp))
  have e9 : (k == 9) = false := beq_eq_false_iff_ne.2 (hk 9 (by simp))
  have e11 : (k == 11) = false := beq_eq_false_iff_ne.2 (hk 11 (by simp))
  have e12 : (k == 12) = false := beq_eq_false_iff_ne.2 (hk 12 (by simp))
  have e13 : (k == 13) = false := beq_eq_false_iff_ne.2 (hk 13 (by simp))
  have e14 : (k == 14) = false := beq_eq_false_iff_ne.2 (hk 14 (by simp))
  have e15 : (k == 15) = false := beq_eq_false_iff_ne.2 (hk 15 (by simp))
  have e16 : (k == 16) = false := beq_eq_false_iff_ne.2 (hk 16 (by simp))
  have e17 : (k == 17) = false := beq_eq_false_iff_ne.2 (hk 17 (by simp))
  have e18 : (k == 18) = false := beq_eq_false_iff_ne.2 (hk 18 (by simp))
  have e19 : (k == 19) = false := beq_eq_false_iff_ne.2 (hk 19 (by simp))
  have hv : bareV k n bits high text more (.slice AB nB cB) (.slice AK nK cK) = .agg #[.int .i64 k, .string text, .string more, .int .i64 n, .int .u64 bits, .int .u64 high, .slice AB nB cB, .slice AK nK cK] := by
    simp [bareV, bareText, bareMore, bareN, bareBits, bareHigh, bareBy, bareKids, e1, e2, e3, e4, e5, e7, e8, e9, e11, e12, e13, e14, e15, e16, e17, e18, e19]
  rw [hv]; clear hv hk
  go_enter Tryz.func64, Tryz.ntmps64
  go_wp2
  exact bodyPost_ret (v := .agg #[.int .i64 k, .string text, .string more, .int .i64 n, .int .u64 bits, .int .u64 high, .slice AB nB cB, .slice AK nK cK]) (by simp [results, Tryz.results64, go_sem]) rfl ⟨by rfl, by first | exact (((Below.refl _ _).alloc (Nat.le_refl _) _).alloc (by simp) _) | (repeat (first | exact (((Below.refl _ _).alloc (Nat.le_refl _) _).alloc (by simp) _) | (refine Below.setCell ?_ (by simp) _)))⟩
theorem docBare_calls (k : Int) (n bits high : Int) (text more : ByteArray) (AB AK : Option Addr) (nB cB nK cK : Nat) (w : World) : Calls Tryz.prog 64 #[.agg #[.int .i64 k, .string text, .string more, .int .i64 n, .int .u64 bits, .int .u64 high, .slice AB nB cB, .slice AK nK cK]] w fun e w' => e = .returned (bareV k n bits high text more (.slice AB nB cB) (.slice AK nK cK)) ∧ Below w.heap.size w w' := by
  by_cases h1 : k = 1
  · subst h1; exact docBare_1 n bits high text more AB AK nB cB nK cK w
  by_cases h2 : k = 2
  · subst h2; exact docBare_2 n bits high text more AB AK nB cB nK cK w
  by_cases h3 : k = 3
  · subst h3; exact docBare_3 n bits high text more AB AK nB cB nK cK w
  by_cases h4 : k = 4
  · subst h4; exact docBare_4 n bits high text more AB AK nB cB nK cK w
  by_cases h5 : k = 5
  · subst h5; exact docBare_5 n bits high text more AB AK nB cB nK cK w
  by_cases h7 : k = 7
  · subst h7; exact docBare_7 n bits high text more AB AK nB cB nK cK w
  by_cases h8 : k = 8
  · subst h8; exact docBare_8 n bits high text more AB AK nB cB nK cK w
  by_cases h9 : k = 9
  · subst h9; exact docBare_9 n bits high text more AB AK nB cB nK cK w
  by_cases h11 : k = 11
  · subst h11; exact docBare_11 n bits high text more AB AK nB cB nK cK w
  by_cases h12 : k = 12
  · subst h12; exact docBare_12 n bits high text more AB AK nB cB nK cK w
  by_cases h13 : k = 13
  · subst h13; exact docBare_13 n bits high text more AB AK nB cB nK cK w
  by_cases h14 : k = 14
  · subst h14; exact docBare_14 n bits high text more AB AK nB cB nK cK w
  by_cases h15 : k = 15
  · subst h15; exact docBare_15 n bits high text more AB AK nB cB nK cK w
  by_cases h16 : k = 16
  · subst h16; exact docBare_16 n bits high text more AB AK nB cB nK cK w
  by_cases h17 : k = 17
  · subst h17; exact docBare_17 n bits high text more AB AK nB cB nK cK w
  by_cases h18 : k = 18
  · subst h18; exact docBare_18 n bits high text more AB AK nB cB nK cK w
  by_cases h19 : k = 19
  · subst h19; exact docBare_19 n bits high text more AB AK nB cB nK cK w
  exact docBare_other k n bits high text more AB AK nB cB nK cK w (by
    intro c hc
    simp only [List.mem_cons, List.not_mem_nil, or_false] at hc
    rcases hc with rfl | rfl | rfl | rfl | rfl | rfl | rfl | rfl | rfl | rfl | rfl | rfl | rfl | rfl | rfl | rfl | rfl <;> assumption)
def spec_DocPlain.l0 : Nat → ByteArray → Int → Option (Bool)
  | 0, _, _ => none
  | k + 1, x0, x3 => if x3 < (x0.size : Int) then (if 0 ≤ x3 then (if (bt x0 x3) = 0 then (some false) else (spec_DocPlain.l0 k x0 (wrap64 (x3 + 1)))) else (none)) else (some true)
def spec_DocPlain.f (k : Nat) (a0 : ByteArray) : Option (Bool) := spec_DocPlain.l0 k a0 0
theorem spec_DocPlain.mono_l : ∀ k, (∀ y0 y1, LeO (spec_DocPlain.l0 k y0 y1) (spec_DocPlain.l0 (k + 1) y0 y1))
  | 0 => fun _ _ r h => by simp [spec_DocPlain.l0] at h
  | k + 1 => by
    have ih0 := spec_DocPlain.mono_l k
    · intro y0 y1
      unfold spec_DocPlain.l0
      have m0_ := @ih0; exact HW.mo
theorem spec_DocPlain.mono : ∀ a0 k, LeO (spec_DocPlain.f k a0) (spec_DocPlain.f (k + 1) a0) := by
  intro a0 k
  have ih0 := spec_DocPlain.mono_l k
  unfold spec_DocPlain.f
  have m0_ := @ih0; exact HW.mo
theorem spec_DocPlain.calls (k : Nat) (a0 : ByteArray) (r : Bool) (w : World) (h : spec_DocPlain.f k a0 = some r) :
    Calls Tryz.prog 65 #[.string a0] w fun e w' => e = .returned (.bool r) ∧ Drawn0 w w' := by
  have H : (spec_DocPlain.l0 k a0 0) = some r := h; clear h; have H' := Aside0.mk H; clear H
  go_enter Tryz.func65, Tryz.ntmps65
  go_wp2
  go_loopg [3] k (fun kq v3 w' => ∃ (x3_1 : Int), v3 = .int .i64 x3_1 ∧ Aside0 (spec_DocPlain.l0 kq a0 x3_1 = some r) ∧ Aside0 (kq ≤ k) ∧ Drawn0 w w')
  case atStart => exact ⟨(0), HW.rs, H', ⟨Nat.le_refl _⟩, by repeat (first | exact Drawn0.refl _ | apply Drawn0.step)⟩
  case round =>
    clear H'; obtain ⟨x3_1, rfl, HA, HK1, ⟨m1, rfl⟩⟩ := hrel
    cases gk with
    | zero => exact absurd HA.out (by simp [spec_DocPlain.l0])
    | succ k1 =>
      have H := HA.out; clear HA
      simp only [spec_DocPlain.l0] at H
      by_cases c2 : x3_1 < (a0.size : Int)
      rotate_left
      · rw [if_neg c2] at H
        have c2b0 : decide (x3_1 < (a0.size : Int)) = false := decide_eq_false c2; clear c2
        as_aux_lemma =>
          obtain rfl := Option.some.inj H
          go_wp2
          go_ret
          exact ⟨by first | rfl | (simp; done) | (simp [*]; done), by repeat (first | exact Drawn0.refl _ | apply Drawn0.step)⟩
      rw [if_pos c2] at H; have c2b0 : decide (x3_1 < (a0.size : Int)) = true := decide_eq_true c2; clear c2
      by_cases c3 : 0 ≤ x3_1
      rotate_left
      · rw [if_neg c3] at H
        exact absurd H (by simp)
      rw [if_pos c3] at H; have c3b0 : decide (0 ≤ x3_1) = true := decide_eq_true c3; clear c3
      by_cases c5 : (bt a0 x3_1) = 0
      · rw [if_pos c5] at H
        have c5b0 : ((bt a0 x3_1) == 0) = true := beq_iff_eq.mpr c5; have c5b1 : ((bt a0 x3_1) != 0) = false := bne_eq_false_iff_eq.mpr c5; clear c5
        as_aux_lemma =>
          obtain rfl := Option.some.inj H
          have p4 : 0 ≤ (x3_1 : Int) := HW.od
          have q4 : x3_1 < (a0.size : Int) := HW.od
          have hx4 := bt_at a0 x3_1; replace p4 := eq_true p4; replace q4 := eq_true q4
          go_wp2
          go_ret
          exact ⟨by first | rfl | (simp; done) | (simp [*]; done), by repeat (first | exact Drawn0.refl _ | apply Drawn0.step)⟩
      rw [if_neg c5] at H; have c5b0 : ((bt a0 x3_1) == 0) = false := beq_eq_false_iff_ne.mpr c5; have c5b1 : ((bt a0 x3_1) != 0) = true := bne_iff_ne.mpr c5
      as_aux_lemma =>
        have H' := Aside0.mk H; clear H
        have p4 : 0 ≤ (x3_1 : Int) := HW.od
        have q4 : x3_1 < (a0.size : Int) := HW.od
        have hx4 := bt_at a0 x3_1; replace p4 := eq_true p4; replace q4 := eq_true q4
        go_wp2
        go_roundg k1
        case measure => have := HK1.out; omega
        case rel => exact ⟨(wrap64 (x3_1 + 1)), HW.rs, H', ⟨by have := HK1.out; omega⟩, by repeat (first | exact Drawn0.refl _ | apply Drawn0.step)⟩
end Go.Proofs.YtpbfigeaoefcmaaGreat.PBg
