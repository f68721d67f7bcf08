import Derived.Test.YtbfhpjkahobgnaaGreatDoorPLox0
namespace Go.Proofs.YtbfhpjkahobgnaaGreatDoor.PLo
open Go.Proofs.YtbfhpjkahobgnaaGreatDoor.HW (tt ff)
open Go.RowKit Go.Proofs.YtbfhpjkahobgnaaGreatDoorW.PrintWords Go.Proofs.YtbfhpjkahobgnaaGreatDoorW.PrintLast Go.Proofs.YtbfhpjkahobgnaaGreatDoorW.PrintMore
attribute [local go_sem] max2_int min2_int max_two min_two max_three min_three max_four min_four
set_option linter.unusedVariables false
set_option maxHeartbeats 8000000
set_option maxRecDepth 100000
set_option linter.unusedSimpArgs false
def impl_code.f (a0 : Option (Int × ByteArray)) : Option Int := Er.code a0
theorem impl_code.calls (ρ : Nat → Addr) (v0 : Value) (a0 : Option (Int × ByteArray)) (r : Int) (w : World) (hL : Er.LaidE ρ w) (he0 : Er.ErrR ρ v0 a0) (h : impl_code.f a0 = some r) :
    Calls Tryz.prog 24 #[v0] w fun e w' => e = .returned (.int .i64 r) ∧ Below w.heap.size w w' := Er.code_calls ρ v0 a0 r w hL he0 h
def impl_own.f (l0 : List Int) : Option (List Int) := if ([] : List Int).length + l0.length < 140737488355328 then (some (([] : List Int) ++ l0)) else (none)
theorem impl_own.calls (A0 : Option Addr) (c0 : Nat) (l0 : List Int) (r : List Int) (w : World) (hr0 : Kd.C (Kd.int .u8) w A0 l0.length l0) (hc0 : l0.length ≤ c0) (h : impl_own.f l0 = some r) :
    Calls Tryz.prog 23 #[.slice A0 l0.length c0] w fun e w' => ∃ v0_ : Value, e = .returned (v0_) ∧ Kd.R (Kd.int .u8) 5 w' w.heap.size (fun _ => True) v0_ r ∧ Below w.heap.size w w' := by
  have HR0 := Aside0.mk hr0; have HC0 := Aside0.mk hc0; clear hr0 hc0; have HB := Aside0.mk (Below.refl w.heap.size w); have H : (if ([] : List Int).length + l0.length < 140737488355328 then (some (([] : List Int) ++ l0)) else (none)) = some r := h; clear h
  by_cases c2 : ([] : List Int).length + l0.length < 140737488355328
  rotate_left
  · rw [if_neg c2] at H
    exact absurd H (by simp)
  rw [if_pos c2] at H; have LMc2 := Aside0.mk c2; clear c2; obtain ⟨y101, hy101⟩ : ∃ y_ : List Int, y_ = (([] : List Int) ++ l0) := ⟨_, rfl⟩
  replace H : (some y101) = some r := by (try rw [hy101]); exact HW.rp
  have Ny101 := Aside0.mk hy101; clear hy101
  as_aux_lemma =>
    obtain rfl := Option.some.inj H
    go_enter Tryz.func23, Tryz.ntmps23
    go_wp2_with (first | ((with_reducible refine gate_builtin (b := .append) (xs := #[.const (.slice none 0 0), .tmp 3]) rfl ?_); at_builtin; refine Kd.R_append_rows (Kd.int .u8) (w0 := w) w.heap.size rfl (.const (.slice none 0 0)) (.tmp 3) 22 5 (.int .u8 0) 1 rfl Tryz.underlying22 info5 rfl (by decide) (by omega) (.slice none 0 0) ([] : List Int) l0 _ _ _ (fun _ => True) (fun _ => False) rfl rfl ?aO ?aR (fun _ _ h => h) (fun _ h => h.elim) ?aF ?aB ?aS ?aL ?_; (case aR => repeat (first | exact HR0.out | (with_reducible refine Kd.C_alloc ?_ _) | (with_reducible refine Kd.C_drewN ?_ _) | (with_reducible refine Kd.C_drew ?_))); (case aB => exact HW.zb); (case aF => exact (fun _ _ => trivial)); (case aO => exact ((Kd.R_nil _ _ _ _ (fun _ => True)))); (case aS => exact (below_size HW.zb)); (case aL => have := LMc2.out; omega); intro v102 w3 ho hb hg hat; rw [← Ny101.out] at ho; have HO103 := Aside0.mk (ho); replace HB := Aside0.mk (hb); clear ho hb hg hat))
    go_ret
    exact ⟨_, rfl, HW.zR HO103.out, HW.zb⟩
def impl_raw.f (a0_0 : Int) (l0_1 : List Int) : Option (Int × List Int) := (impl_own.f l0_1).bind fun t106 => (some (wrap64 (a0_0), t106))
def impl_raw.T1 : Bool × List (List Nat × List Nat) := (true, [([], []), ([0], [0]), ([1], [1]), ([], []), ([3], [3]), ([4], [4]), ([2, 5], [2, 5]), ([6, 5, 0, 1, 2, 3, 4, 5, 6], [6])])
def impl_raw.B1 : List Nat := [0, 1, 3, 0, 8, 24, 63, 127]
theorem impl_raw.tab1 : rtab .any (opsOf Tryz.f26 1) = impl_raw.T1 := by kernel_rfl
theorem impl_raw.bits1 : waitsOk impl_raw.T1.2 impl_raw.B1 = true := by kernel_rfl
theorem impl_raw.calls (a0_0 : Int) (A0_1 : Option Addr) (c0_1 : Nat) (l0_1 : List Int) (r1 : Int) (r2 : List Int) (w : World) (hr0_1 : Kd.C (Kd.int .u8) w A0_1 l0_1.length l0_1) (hc0_1 : l0_1.length ≤ c0_1) (h : impl_raw.f a0_0 l0_1 = some (r1, r2)) :
    Calls Tryz.prog 26 #[.agg #[.int .u8 a0_0, .slice A0_1 l0_1.length c0_1]] w fun e w' => ∃ v1_ : Value, e = .returned (.agg #[.int .i64 r1, v1_]) ∧ Kd.R (Kd.int .u8) 5 w' w.heap.size (fun _ => True) v1_ r2 ∧ Below w.heap.size w w' := by
  have hu67 := Tryz.underlying67; have hu25 := Tryz.underlying25; have HR0_1 := Aside0.mk hr0_1; have HC0_1 := Aside0.mk hc0_1; clear hr0_1 hc0_1; have HB := Aside0.mk (Below.refl w.heap.size w); have H : ((impl_own.f l0_1).bind fun t106 => (some (wrap64 (a0_0), t106))) = some (r1, r2) := h; clear h; replace H := Option.bind_eq_some_iff.mp H; obtain ⟨t106, A20, H⟩ := H; replace H : (some (wrap64 (a0_0), t106)) = some (r1, r2) := H; have A2 := Aside0.mk A20; clear A20
  as_aux_lemma =>
    simp only [Option.some.injEq, Prod.mk.injEq] at H
    obtain ⟨rfl, rfl⟩ := H
    go_enter Tryz.func26, Tryz.ntmps26
    try go_wp2_with (first | ((with_reducible refine gate_dst (N := 1) rfl ?_); refine box_event ?hg (N := 1) ?hd (cs := #[.int .u8 a0_0, .slice A0_1 l0_1.length c0_1]) (t := 67) ?hr ?_; (case hd => rfl); (case hg => rfl); (case hr => first | (go_simp; done) | (go_simp; rfl)); intro gb104 hg w3 hbox hb; have BK104 := Aside0.mk (hbox); have GE104 := Aside0.mk ((by rw [hg]; exact (below_size HW.zb) : w.heap.size ≤ gb104)); replace HB := Aside0.mk (below_step HW.zb hb); clear hb hbox hg) | ((with_reducible refine gate_dst (N := 2) rfl ?_); refine box_event ?hg (N := 2) ?hd (cs := #[.int .i64 0, .slice none 0 0]) (t := 25) ?hr ?_; (case hd => rfl); (case hg => rfl); (case hr => first | (go_simp; done) | (go_simp; rfl)); intro gb105 hg w4 hbox hb; have BK105 := Aside0.mk (hbox); have GE105 := Aside0.mk ((by rw [hg]; exact (below_size HW.zb) : w.heap.size ≤ gb105)); have NB104_105 := Aside0.mk ((by rw [hg]; exact Nat.ne_of_lt (blk_lt (g := gb104) (o := .cells #[.int .u8 a0_0, .slice A0_1 l0_1.length c0_1] 67 (0, 0)) (HW.zB BK104.out)) : gb104 ≠ gb105)); have NB105_104 := Aside0.mk ((by rw [hg]; exact Nat.ne_of_gt (blk_lt (g := gb104) (o := .cells #[.int .u8 a0_0, .slice A0_1 l0_1.length c0_1] 67 (0, 0)) (HW.zB BK104.out)) : gb105 ≠ gb104)); replace BK104 := Aside0.mk (blk_below (HW.zB BK104.out) hb); replace HB := Aside0.mk (below_step HW.zb hb); clear hb hbox hg))
    replace BK104 := Aside0.mk (blk_drew BK104.out); replace BK105 := Aside0.mk (blk_drew BK105.out); replace HB := Aside0.mk (below_drew1 HB.out)
    refine start_ (n := 8) (S := fun w' => w'.cell? ⟨gb104, 0, none⟩ = some (.int .u8 a0_0) ∧ w'.cell? ⟨gb104, 1, none⟩ = some (.slice A0_1 l0_1.length c0_1)) (ds := []) #[ff,ff,ff,ff,ff,ff,ff,ff] (by kernel_rfl) rfl rfl (HW.k2 BK104.out) (fun hHeld => ?_); refine with_tabW impl_raw.tab1 impl_raw.bits1 (fun HT_ HW_ => ?_)
    generalize w4.drew = w5 at BK104 BK105 HB hHeld ⊢
    refine HW.pz (i := 0) (N := some 3) #[tt,ff,ff,ff,ff,ff,ff,ff] ?_ (hc := any_of HT_.out (by kernel_rfl))
    refine HW.pz (i := 3) (N := some 6) #[tt,ff,ff,tt,ff,ff,ff,ff] ?_ (hc := any_of HT_.out (by kernel_rfl))
    refine take_ (i := 1) (N := some 4) (v := ?_) (a' := ?_) #[tt,tt,ff,tt,ff,ff,ff,ff] rfl rfl (take_ofW HT_.out HW_.out (by kernel_rfl)) (fun _ _ _ h => h) (Or.inl ⟨by rfl, ?_⟩) hHeld ?_ ?_
    rotate_left
    · rintro w' ⟨s0, s1⟩
      go_simp
      with_reducible rfl
    rotate_left
    · exact HW.pt
    refine HW.pz (i := 2) (N := some 5) #[tt,tt,tt,tt,ff,ff,ff,ff] ?_ (hc := any_of HT_.out (by kernel_rfl))
    refine take_ (i := 4) (N := some 7) (v := ?_) (a' := ?_) #[tt,tt,tt,tt,tt,ff,ff,ff] rfl rfl (take_ofW HT_.out HW_.out (by kernel_rfl)) (fun _ _ _ h => h) (Or.inl ⟨by rfl, ?_⟩) hHeld ?_ ?_
    rotate_left
    · rintro w' ⟨s0, s1⟩
      go_simp
      with_reducible rfl
    rotate_left
    · exact HW.pt
    refine one_ (i := 5) (N := some 8) #[tt,tt,tt,tt,tt,tt,ff,ff] rfl rfl (one_of HT_.out (by kernel_rfl)) (by decide) (fun K hK => ?_)
    refine goes_ Tryz.func23 (by kernel_rfl) rfl #[.slice A0_1 l0_1.length c0_1] (by rfl) rfl rfl HW.mt ?_
    with_reducible refine (impl_own.calls _ _ l0_1 t106 _ ?side1 ?side2 A2.out).mono ?_
    (case side1 => repeat (first | exact (Kd.C_below HR0_1.out HB.out) | (with_reducible refine Kd.C_alloc ?_ _) | (with_reducible refine Kd.C_drewN ?_ _) | (with_reducible refine Kd.C_drew ?_)))
    (case side2 => exact HC0_1.out)
    rintro e w6 ⟨v107, rfl, ho0, hb⟩
    refine ⟨_, rfl, ?_⟩
    have HO108 := Aside0.mk (Kd.R_lower ho0 (below_size HW.zb)); replace BK104 := Aside0.mk (blk_below (HW.zB BK104.out) hb); replace BK105 := Aside0.mk (blk_below (HW.zB BK105.out) hb); replace HB := Aside0.mk (below_step HW.zb hb)
    (try clear hb)
    (try clear ho0)
    obtain ⟨Ao7, co7, eo7⟩ := Kd.R_slice HO108.out
    (first | subst eo7 | (injection eo7 with f1_ f2_ f3_; have f4_ := f1_.symm; have f5_ := f3_.symm; clear f1_ f2_ f3_; subst f4_; subst f5_))
    refine hK.out _ _ (HW.k2 BK104.out) (fun hHeld => ?_)
    clear hK K
    refine HW.nz (N := (some 8)) ?_
    refine HW.pz (i := 6) (N := some 9) #[tt,tt,tt,tt,tt,tt,tt,ff] ?_ (hc := any_of HT_.out (by kernel_rfl))
    refine one_ (i := 7) (N := none) #[tt,tt,tt,tt,tt,tt,tt,tt] rfl rfl (one_of HT_.out (by kernel_rfl)) (by decide) (fun K hK => ?_)
    have hs8 : w6.cell? ⟨gb105, 0, none⟩ = some (.int .i64 0) := (blk_cell BK105.out 0).trans rfl; have hfs8 := blk_frozen BK105.out 0; have hns8_0 := NB104_105.out; have hms8_0 := NB105_104.out; have hs9 : w6.cell? ⟨gb105, 1, none⟩ = some (.slice none 0 0) := (blk_cell BK105.out 1).trans rfl; have hfs9 := blk_frozen BK105.out 1; have hns9_0 := NB104_105.out; have hms9_0 := NB105_104.out
    refine skip_ (w1 := ?_) (by rfl) rfl ?_ ?_
    rotate_left
    · go_simp
      rfl
    refine hK.out _ _ ⟨((cell_far (p := ⟨gb105, _, none⟩) NB104_105.out _).trans (((cell_far (p := ⟨gb105, _, none⟩) NB104_105.out _).trans (hHeld.1)))), ((cell_far (p := ⟨gb105, _, none⟩) NB104_105.out _).trans (((cell_far (p := ⟨gb105, _, none⟩) NB104_105.out _).trans (hHeld.2))))⟩ (fun hHeld => ?_)
    clear hK K
    refine done_ (done_of HT_.out (by kernel_rfl)) ?_
    try go_wp2
    refine bodyPost_ret (results_cell_row rfl _ _ gb105 25 #[.int .i64 (wrap64 (a0_0)), .slice Ao7 t106.length co7] (0, 0) _ rfl (by (with_reducible repeat (first | refine blk_drewN ?_ _ | refine blk_drew ?_ | refine blk_alloc ?_ _)); refine blk_put (cs := #[.int .i64 (wrap64 (a0_0)), .slice none 0 0]) ?_ 1 _ rfl; (with_reducible repeat (first | refine blk_drewN ?_ _ | refine blk_drew ?_ | refine blk_alloc ?_ _)); refine blk_put (cs := #[.int .i64 0, .slice none 0 0]) ?_ 0 _ rfl; exact HW.zB BK105.out) Tryz.underlying25 rfl (by kernel_rfl)) rfl ?_
    exact ⟨_, rfl, by (with_reducible repeat (first | apply Kd.R_alloc | apply Kd.R_drewN | apply Kd.R_drew)); exact Kd.R_mono (Kd.R_far (p := ⟨gb105, 1, none⟩) (Kd.R_far (p := ⟨gb105, 0, none⟩) (Kd.R_types HO108.out BK105.out (by decide)) (fun _ hk => hk.2) (.int .i64 (wrap64 (a0_0)))) (fun _ hk => hk.2) (.slice Ao7 t106.length co7)) (fun _ hk => trivial), HW.zb⟩
def binaryutil_ReadI32.f (l0 : List Int) : Option (Int × List Int × Bool) := if (l0.length : Int) < 4 then (some (0, l0, false)) else (if 3 < (l0.length : Int) then (if 0 < (l0.length : Int) then (if 1 < (l0.length : Int) then (if 2 < (l0.length : Int) then (if 4 ≤ (l0.length : Int) then (some (Go.bits .or .i32 (Go.bits .or .i32 (Go.bits .or .i32 (wrap32 (rd l0 0)) (wrap32 ((wrap32 (rd l0 1)) * 256))) (wrap32 ((wrap32 (rd l0 2)) * 65536))) (wrap32 ((wrap32 (rd l0 3)) * 16777216)), (l0.drop 4), true)) else (none)) else (none)) else (none)) else (none)) else (none))
theorem binaryutil_ReadI32.calls (P0_ : Nat → Prop) (A0 : Option Addr) (c0 : Nat) (l0 : List Int) (r1 : Int) (r2 : List Int) (r3 : Bool) (w : World) (hs0 : Kd.V (Kd.int .u8) 5 w w.heap.size (fun k_ => P0_ k_) (.slice A0 l0.length c0) l0) (h : binaryutil_ReadI32.f l0 = some (r1, r2, r3)) :
    Calls Tryz.prog 118 #[.slice A0 l0.length c0] w fun e w' => ∃ v1_ : Value, e = .returned (.tuple #[.int .i32 r1, v1_, .bool r3]) ∧ Kd.V (Kd.int .u8) 5 w' w.heap.size (fun k_ => (P0_ k_ ∨ w.heap.size ≤ k_)) v1_ r2 ∧ Below w.heap.size w w' := by
  have HO0 := Aside0.mk (show Kd.V (Kd.int .u8) 5 w w.heap.size (fun k_ => (P0_ k_ ∨ w.heap.size ≤ k_)) (.slice A0 l0.length c0) l0 from Kd.V_mono hs0 (fun k_ hk => .inl hk)); have HB := Aside0.mk (Below.refl w.heap.size w); have H : (if (l0.length : Int) < 4 then (some (0, l0, false)) else (if 3 < (l0.length : Int) then (if 0 < (l0.length : Int) then (if 1 < (l0.length : Int) then (if 2 < (l0.length : Int) then (if 4 ≤ (l0.length : Int) then (some (Go.bits .or .i32 (Go.bits .or .i32 (Go.bits .or .i32 (wrap32 (rd l0 0)) (wrap32 ((wrap32 (rd l0 1)) * 256))) (wrap32 ((wrap32 (rd l0 2)) * 65536))) (wrap32 ((wrap32 (rd l0 3)) * 16777216)), (l0.drop 4), true)) else (none)) else (none)) else (none)) else (none)) else (none))) = some (r1, r2, r3) := h; clear h
  by_cases c2 : (l0.length : Int) < 4
  · rw [if_pos c2] at H
    have c2b0 : decide ((l0.length : Int) < 4) = true := decide_eq_true c2
    have c2b1 : decide (l0.length < 4) = true := decide_eq_true (by omega)
    clear c2
    as_aux_lemma =>
      simp only [Option.some.injEq, Prod.mk.injEq] at H
      obtain ⟨rfl, rfl, rfl⟩ := H
      go_enter Tryz.func118, Tryz.ntmps118
      go_wp2
      repeat (go_quiet (fail); try go_wp2)
      go_ret3
      exact ⟨_, rfl, HW.zV HO0.out, HW.zb⟩
  rw [if_neg c2] at H; have c2b0 : decide ((l0.length : Int) < 4) = false := decide_eq_false c2
  have c2b1 : decide (l0.length < 4) = false := decide_eq_false (by omega)
  clear c2
  by_cases c3 : 3 < (l0.length : Int)
  rotate_left
  · rw [if_neg c3] at H
    exact absurd H (by simp)
  rw [if_pos c3] at H; have c3b0 : decide (3 < (l0.length : Int)) = true := decide_eq_true c3
  have c3b1 : decide (3 < l0.length) = true := decide_eq_true (by omega)
  clear c3
  by_cases c4 : 0 < (l0.length : Int)
  rotate_left
  · rw [if_neg c4] at H
    exact absurd H (by simp)
  rw [if_pos c4] at H; have c4b0 : decide (0 < (l0.length : Int)) = true := decide_eq_true c4
  have c4b1 : decide (0 < l0.length) = true := decide_eq_true (by omega)
  clear c4
  by_cases c5 : 1 < (l0.length : Int)
  rotate_left
  · rw [if_neg c5] at H
    exact absurd H (by simp)
  rw [if_pos c5] at H; have c5b0 : decide (1 < (l0.length : Int)) = true := decide_eq_true c5
  have c5b1 : decide (1 < l0.length) = true := decide_eq_true (by omega)
  clear c5
  by_cases c6 : 2 < (l0.length : Int)
  rotate_left
  · rw [if_neg c6] at H
    exact absurd H (by simp)
  rw [if_pos c6] at H; have c6b0 : decide (2 < (l0.length : Int)) = true := decide_eq_true c6
  have c6b1 : decide (2 < l0.length) = true := decide_eq_true (by omega)
  clear c6
  by_cases c7 : 4 ≤ (l0.length : Int)
  rotate_left
  · rw [if_neg c7] at H
    exact absurd H (by simp)
  rw [if_pos c7] at H; have c7b0 := eq_true c7; have c7b1 : decide (4 ≤ (l0.length : Int)) = true := decide_eq_true c7; clear c7; obtain ⟨y114, hy114⟩ : ∃ y_ : List Int, y_ = (l0.drop 4) := ⟨_, rfl⟩
  replace H : (some (Go.bits .or .i32 (Go.bits .or .i32 (Go.bits .or .i32 (wrap32 (rd l0 0)) (wrap32 ((wrap32 (rd l0 1)) * 256))) (wrap32 ((wrap32 (rd l0 2)) * 65536))) (wrap32 ((wrap32 (rd l0 3)) * 16777216)), y114, true)) = some (r1, r2, r3) := by (try rw [hy114]); exact HW.rp
  have Ny114 := Aside0.mk hy114; clear hy114
  as_aux_lemma =>
    simp only [Option.some.injEq, Prod.mk.injEq] at H
    obtain ⟨rfl, rfl, rfl⟩ := H
    have p109 : 0 ≤ (3 : Int) := (by omega)
    have q109 : 3 < (l0.length : Int) := HW.od
    obtain ⟨ad109, e109, hx109_0⟩ := Kd.at_int (Kd.V_reads' HO0.out).2.2 3 p109 q109
    cases e109
    (try simp only [show (3 : Int).toNat = 3 from rfl, Nat.reduceMul, Nat.reduceEqDiff, Go.Addr.add, ↓reduceIte] at hx109_0)
    have qi109 : (3 < l0.length) = True := eq_true (by omega)
    (try rw [show ((3 : Int)).toNat = 3 from rfl] at hx109_0)
    replace p109 := eq_true p109; replace q109 := eq_true q109
    have p110 : 0 ≤ (0 : Int) := (by omega)
    have q110 : 0 < (l0.length : Int) := HW.od
    obtain ⟨ad110, e110, hx110_0⟩ := Kd.at_int (Kd.V_reads' HO0.out).2.2 0 p110 q110
    obtain rfl : ad109 = ad110 := (by injection e110)
    have qi110 : (0 < l0.length) = True := eq_true (by omega)
    (try rw [show ((0 : Int)).toNat = 0 from rfl] at hx110_0)
    (try rw [Addr.add_zero'] at hx110_0)
    replace p110 := eq_true p110; replace q110 := eq_true q110
    have p111 : 0 ≤ (1 : Int) := (by omega)
    have q111 : 1 < (l0.length : Int) := HW.od
    obtain ⟨ad111, e111, hx111_0⟩ := Kd.at_int (Kd.V_reads' HO0.out).2.2 1 p111 q111
    obtain rfl : ad109 = ad111 := (by injection e111)
    (try simp only [show (1 : Int).toNat = 1 from rfl, Nat.reduceMul, Nat.reduceEqDiff, Go.Addr.add, ↓reduceIte] at hx111_0)
    have qi111 : (1 < l0.length) = True := eq_true (by omega)
    (try rw [show ((1 : Int)).toNat = 1 from rfl] at hx111_0)
    replace p111 := eq_true p111; replace q111 := eq_true q111
    have p112 : 0 ≤ (2 : Int) := (by omega)
    have q112 : 2 < (l0.length : Int) := HW.od
    obtain ⟨ad112, e112, hx112_0⟩ := Kd.at_int (Kd.V_reads' HO0.out).2.2 2 p112 q112
    obtain rfl : ad109 = ad112 := (by injection e112)
    (try simp only [show (2 : Int).toNat = 2 from rfl, Nat.reduceMul, Nat.reduceEqDiff, Go.Addr.add, ↓reduceIte] at hx112_0)
    have qi112 : (2 < l0.length) = True := eq_true (by omega)
    (try rw [show ((2 : Int)).toNat = 2 from rfl] at hx112_0)
    replace p112 := eq_true p112; replace q112 := eq_true q112
    have p113 : 0 ≤ (3 : Int) := (by omega)
    have q113 : 3 < (l0.length : Int) := HW.od
    obtain ⟨ad113, e113, hx113_0⟩ := Kd.at_int (Kd.V_reads' HO0.out).2.2 3 p113 q113
    obtain rfl : ad109 = ad113 := (by injection e113)
    (try simp only [show (3 : Int).toNat = 3 from rfl, Nat.reduceMul, Nat.reduceEqDiff, Go.Addr.add, ↓reduceIte] at hx113_0)
    have qi113 : (3 < l0.length) = True := eq_true (by omega)
    (try rw [show ((3 : Int)).toNat = 3 from rfl] at hx113_0)
    replace p113 := eq_true p113; replace q113 := eq_true q113
    have q8 : (4 : Int) ≤ ((l0.length : Int) : Int) := HW.od
    obtain ⟨i08, hi08, _, hsz8, _⟩ := info_parts info5; have hroom8 : l0.length ≤ c0 := (Kd.V_reads' HO0.out).2.1; have hC8 : Kd.F (Kd.int .u8) _ _ (some ad109) l0.length l0 := (Kd.V_at (base := w.heap.size) HO0.out).2.2
    have hcut8 := cut_from (P := Tryz.prog) 22 5 .i64 Tryz.underlying22 hi08 1 hsz8 (some ad109) l0.length c0 4 (by omega) q8
    have hr8 := Kd.F_cut (m := (4 : Int).toNat) (c := c0) hC8 (by omega) hroom8
    obtain ⟨A8, hA8⟩ : ∃ A1, A1 = (if c0 = (4 : Int).toNat then (some ad109) else ((some ad109) : Option Addr).map (·.add ((4 : Int).toNat * 1))) := ⟨_, rfl⟩; obtain ⟨c8, hc8⟩ : ∃ c1, c1 = c0 - (4 : Int).toNat := ⟨_, rfl⟩
    have hy8 : y114.length = l0.length - (4 : Int).toNat := (by rw [Ny114.out, List.length_drop] <;> omega)
    rw [show (l0).drop (4 : Int).toNat = y114 from Ny114.out.symm] at hr8
    replace hr8 : Kd.F (Kd.int .u8) _ _ A8 y114.length y114 := (by rw [hA8]; exact hr8)
    rw [← hy8, ← hA8, ← hc8] at hcut8
    have HO118 := Aside0.mk (show Kd.V (Kd.int .u8) 5 _ w.heap.size _ (.slice A8 y114.length c8) y114 from Kd.V_mk (by rw [hy8, hc8]; exact Nat.sub_le_sub_right hroom8 _) hr8)
    have HC118 := Aside0.mk (show y114.length ≤ c8 from by rw [hy8, hc8]; exact Nat.sub_le_sub_right hroom8 _)
    clear hr8 hC8 hroom8 hi08 hsz8 hc8; have KY8 := Aside0.mk hy8; have KA8 := Aside0.mk hA8; clear hy8 hA8; replace q8 := eq_true q8
    go_enter Tryz.func118, Tryz.ntmps118
    go_wp2
    repeat (go_quiet (fail); try go_wp2)
    go_ret3
    exact ⟨_, rfl, HW.zV HO118.out, HW.zb⟩
def bsoncore_ReadLength.f (l0 : List Int) : Option (Int × List Int × Bool) := (binaryutil_ReadI32.f l0).bind fun bt119 => (if bt119.1 < 0 then (some (bt119.1, bt119.2.1, false)) else (some (bt119.1, bt119.2.1, bt119.2.2)))
theorem bsoncore_ReadLength.calls (P0_ : Nat → Prop) (A0 : Option Addr) (c0 : Nat) (l0 : List Int) (r1 : Int) (r2 : List Int) (r3 : Bool) (w : World) (hs0 : Kd.V (Kd.int .u8) 5 w w.heap.size (fun k_ => P0_ k_) (.slice A0 l0.length c0) l0) (h : bsoncore_ReadLength.f l0 = some (r1, r2, r3)) :
    Calls Tryz.prog 74 #[.slice A0 l0.length c0] w fun e w' => ∃ v1_ : Value, e = .returned (.tuple #[.int .i32 r1, v1_, .bool r3]) ∧ Kd.V (Kd.int .u8) 5 w' w.heap.size (fun k_ => (P0_ k_ ∨ w.heap.size ≤ k_)) v1_ r2 ∧ Below w.heap.size w w' := by
  have HO0 := Aside0.mk (show Kd.V (Kd.int .u8) 5 w w.heap.size (fun k_ => (P0_ k_ ∨ w.heap.size ≤ k_)) (.slice A0 l0.length c0) l0 from Kd.V_mono hs0 (fun k_ hk => .inl hk)); have HB := Aside0.mk (Below.refl w.heap.size w); have H : ((binaryutil_ReadI32.f l0).bind fun bt119 => (if bt119.1 < 0 then (some (bt119.1, bt119.2.1, false)) else (some (bt119.1, bt119.2.1, bt119.2.2)))) = some (r1, r2, r3) := h; clear h; replace H := Option.bind_eq_some_iff.mp H; obtain ⟨⟨t119, t120, t123⟩, A20, H⟩ := H; replace H : (if t119 < 0 then (some (t119, t120, false)) else (some (t119, t120, t123))) = some (r1, r2, r3) := H; have A2 := Aside0.mk A20; clear A20
  by_cases c3 : t119 < 0
  · rw [if_pos c3] at H
    have c3b0 : decide (t119 < 0) = true := decide_eq_true c3; clear c3
    as_aux_lemma =>
      simp only [Option.some.injEq, Prod.mk.injEq] at H
      obtain ⟨rfl, rfl, rfl⟩ := H
      go_enter Tryz.func74, Tryz.ntmps74
      go_wp2_with (first | ((with_reducible refine gate_callee (f := 118) rfl ?_); refine HW.gz (some 9) rfl rfl Tryz.func118 (by kernel_rfl) rfl #[.slice A0 l0.length c0] rfl ?_; (with_reducible refine (binaryutil_ReadI32.calls (fun k_ => (P0_ k_ ∨ w.heap.size ≤ k_)) _ _ l0 t119 t120 t123 _ ?side1 A2.out).mono ?_); (case side1 => exact HO0.out); rintro e w4 ⟨v121, rfl, ho0, hb⟩; refine ⟨_, rfl, ?_⟩; replace HO0 := Aside0.mk (Kd.V_below (HW.zV HO0.out) hb); have HO122 := Aside0.mk (Kd.V_lower (Kd.V_mono (ok' := fun k_ => (P0_ k_ ∨ w.heap.size ≤ k_)) ho0 (fun k_ hk_ => Or.elim hk_ (fun hs_ => hs_) (fun hn_ => (.inr (Nat.le_trans (below_size HW.zb) hn_))))) (below_size HW.zb)); replace HB := Aside0.mk (below_step HW.zb hb); (try clear hb); (try clear ho0)))
      go_ret3
      exact ⟨_, rfl, HW.zV HO122.out, HW.zb⟩
  rw [if_neg c3] at H; have c3b0 : decide (t119 < 0) = false := decide_eq_false c3; clear c3
  as_aux_lemma =>
    simp only [Option.some.injEq, Prod.mk.injEq] at H
    obtain ⟨rfl, rfl, rfl⟩ := H
    go_enter Tryz.func74, Tryz.ntmps74
    go_wp2_with (first | ((with_reducible refine gate_callee (f := 118) rfl ?_); refine HW.gz (some 9) rfl rfl Tryz.func118 (by kernel_rfl) rfl #[.slice A0 l0.length c0] rfl ?_; (with_reducible refine (binaryutil_ReadI32.calls (fun k_ => (P0_ k_ ∨ w.heap.size ≤ k_)) _ _ l0 t119 t120 t123 _ ?side1 A2.out).mono ?_); (case side1 => exact HO0.out); rintro e w5 ⟨v121, rfl, ho0, hb⟩; refine ⟨_, rfl, ?_⟩; have HO122 := Aside0.mk (Kd.V_lower (Kd.V_mono (ok' := fun k_ => (P0_ k_ ∨ w.heap.size ≤ k_)) ho0 (fun k_ hk_ => Or.elim hk_ (fun hs_ => hs_) (fun hn_ => (.inr (Nat.le_trans (below_size HW.zb) hn_))))) (below_size HW.zb)); replace HB := Aside0.mk (below_step HW.zb hb); (try clear hb); (try clear ho0)))
    go_ret3
    exact ⟨_, rfl, HW.zV HO122.out, HW.zb⟩
def bytes_IndexByte.f (l0 : List Int) (a1 : Int) : Option (Int) := some (Lib.indexByte (Lib.bytesOf l0) a1.toNat.toUInt8)
theorem bytes_IndexByte.calls (A0 : Option Addr) (c0 : Nat) (l0 : List Int) (a1 : Int) (r : Int) (w : World) (hr0 : Kd.C (Kd.int .u8) w A0 l0.length l0) (_hc0 : l0.length ≤ c0) (h : bytes_IndexByte.f l0 a1 = some r) :
    Calls Tryz.prog 127 #[.slice A0 l0.length c0, .int .u8 a1] w fun e w' => e = .returned (.int .i64 r) ∧ Drawn0 w w' := by
  obtain rfl := Option.some.inj h; clear h; have HR := Kd.reads_of_C (enc := Value.int .u8) (d := (0 : Int)) (h1 := fun _ => rfl) hr0; clear hr0
  cases A0 with
  | none =>
    have hl : l0 = [] := by
      rcases Nat.eq_zero_or_pos l0.length with hz | hz
      · exact List.eq_nil_of_length_eq_zero hz
      obtain ⟨_, he, _⟩ := HR.2.2 hz
      cases he
    subst hl
    go_enter Tryz.func127, Tryz.ntmps127
    go_wp2
    rw [run_callFunc_extern Tryz.func163 (by kernel_rfl) (by kernel_rfl) (by kernel_rfl) (e := Extern.BytealgIndexByte.indexByte) (by kernel_rfl), Lib.run_indexByteNil w]
    simp only [Result.andThen]
    rw [Oper.upon_value]
    go_wp2
    go_ret
    exact ⟨rfl, ⟨0, rfl⟩⟩
  | some a =>
    have hc : ∀ i, i < l0.length → w.cell? (a.add i) = some (.int .u8 (l0.getD i 0)) := by
      intro i hi
      obtain ⟨ad, he, hc⟩ := HR.2.2 (by omega)
      cases he
      exact hc i hi
    clear HR
    go_enter Tryz.func127, Tryz.ntmps127
    go_wp2
    rw [run_callFunc_extern Tryz.func163 (by kernel_rfl) (by kernel_rfl) (by kernel_rfl) (e := Extern.BytealgIndexByte.indexByte) (by kernel_rfl), Lib.run_indexByteAt w a l0.length c0 l0 rfl hc a1]
    simp only [Result.andThen]
    rw [Oper.upon_value]
    go_wp2
    go_ret
    exact ⟨rfl, ⟨0, rfl⟩⟩
end Go.Proofs.YtbfhpjkahobgnaaGreatDoor.PLo
