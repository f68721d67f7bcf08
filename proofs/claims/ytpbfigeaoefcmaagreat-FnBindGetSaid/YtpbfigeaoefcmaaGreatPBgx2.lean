import Derived.Test.YtpbfigeaoefcmaaGreatPBgx0
namespace Go.Proofs.YtpbfigeaoefcmaaGreat.PBg
open Go.Proofs.YtpbfigeaoefcmaaGreat.HW (tt ff)
open Go.RowKit Go.Proofs.YtpbfigeaoefcmaaGreatW.PrintWords Go.Proofs.YtpbfigeaoefcmaaGreatW.PrintLast Go.Proofs.YtpbfigeaoefcmaaGreatW.PrintMore
attribute [local go_sem] max2_int min2_int max_two min_two max_three min_three max_four min_four
set_option linter.unusedVariables false
set_option maxHeartbeats 8000000
set_option maxRecDepth 100000
set_option linter.unusedSimpArgs false
def spec_DocDigits.f : Nat → Int → Option (ByteArray)
  | 0, _ => none
  | k + 1, a0 => if a0 < 10 then (some (strOfNums (([(wrap64 (48 + a0)) % 256] : List Int)))) else ((spec_DocDigits.f k (wrap64 (Int.tdiv a0 10))).bind fun t108 => ((some (([(wrap64 (48 + (Int.tmod a0 10))) % 256] : List Int) : List Int)).bind fun y109 => (if t108.size + (strOfNums y109).size ≤ 9223372036854775807 then (some (t108 ++ (strOfNums y109))) else (none))))
theorem spec_DocDigits.mono_l : ∀ k, (∀ y0, LeO (spec_DocDigits.f k y0) (spec_DocDigits.f (k + 1) y0))
  | 0 => fun _ r h => by simp [spec_DocDigits.f] at h
  | k + 1 => by
    have ih0 := spec_DocDigits.mono_l k
    · intro y0
      unfold spec_DocDigits.f
      have m0_ := @ih0; exact HW.mo
theorem spec_DocDigits.mono : ∀ a0 k, LeO (spec_DocDigits.f k a0) (spec_DocDigits.f (k + 1) a0) := by
  intro a0 k
  have ih0 := spec_DocDigits.mono_l k
  exact ih0 a0
def spec_DocDigits.T3 : Bool × List (List Nat × List Nat) := (true, [([], []), ([0], [0]), ([1], [1]), ([], []), ([3], [3]), ([4], [4]), ([5], [5]), ([6], [6]), ([7], [7]), ([2, 8], [2, 8]), ([9, 2, 0, 1, 2, 3, 4, 5, 6, 7, 8, 9], [9])])
def spec_DocDigits.B3 : List Nat := [0, 1, 3, 0, 8, 24, 56, 120, 248, 511, 1023]
theorem spec_DocDigits.tab3 : rtab .any (opsOf Tryz.f66 3) = spec_DocDigits.T3 := by kernel_rfl
theorem spec_DocDigits.bits3 : waitsOk spec_DocDigits.T3.2 spec_DocDigits.B3 = true := by kernel_rfl
theorem spec_DocDigits.calls (k : Nat) : ∀ (a0 : Int) (r : ByteArray) (w : World) (h : spec_DocDigits.f k a0 = some r),
    Calls Tryz.prog 66 #[.int .i64 a0] w fun e w' => e = .returned (.string r) ∧ Below w.heap.size w w' := by
  induction k using Nat.strongRecOn with
  | _ k ih =>
  intro a0 r w h
  cases k with
  | zero => exact absurd h (by simp [spec_DocDigits.f])
  | succ k =>
  simp only [spec_DocDigits.f] at h
  have HB := Aside0.mk (Below.refl w.heap.size w); have H : (if a0 < 10 then (some (strOfNums (([(wrap64 (48 + a0)) % 256] : List Int)))) else ((spec_DocDigits.f k (wrap64 (Int.tdiv a0 10))).bind fun t108 => ((some (([(wrap64 (48 + (Int.tmod a0 10))) % 256] : List Int) : List Int)).bind fun y109 => (if t108.size + (strOfNums y109).size ≤ 9223372036854775807 then (some (t108 ++ (strOfNums y109))) else (none))))) = some r := h; clear h
  by_cases c2 : a0 < 10
  · rw [if_pos c2] at H
    have c2b0 : decide (a0 < 10) = true := decide_eq_true c2; clear c2; obtain ⟨y105, hy105⟩ : ∃ y_ : List Int, y_ = (([(wrap64 (48 + a0)) % 256] : List Int)) := ⟨_, rfl⟩
    replace H : (some (strOfNums y105)) = some r := by (try rw [hy105]); exact HW.rp
    have Ny105 := Aside0.mk hy105; clear hy105
    as_aux_lemma =>
      obtain rfl := Option.some.inj H
      go_enter Tryz.func66, Tryz.ntmps66
      go_wp2_with (first | ((with_reducible refine gate_dst (N := 8) rfl ?_); refine Kd.R_lit (Kd.int .u8) _ 5 ?hg (N := 8) ?hd (xs := ([(wrap64 (48 + a0)) % 256] : List Int)) (inner := [.int .u8 ((wrap64 (48 + a0)) % 256)]) (ok := fun _ => True) (okp := fun _ => True) ?hr ?hp (fun _ hk => hk) trivial (Below.refl _ _) (Nat.le_refl _) (by simp) ?_; (case hd => rfl); (case hg => rfl); (case hr => first | (go_simp; done) | (go_simp; rfl)); (case hp => exact (Reps.one (show Kd.M (Kd.int .u8) _ _ _ ((wrap64 (48 + a0)) % 256) [.int .u8 ((wrap64 (48 + a0)) % 256)] from rfl) (Reps.none _ _))); intro v106 w3 ho4 hb hg_ hnew_; clear hg_ hnew_; (first | rw [← Ny105.out] at ho4 | (simp only [Int.reduceToNat] at ho4; rw [← Ny105.out] at ho4)); have HO107 := Aside0.mk (Kd.R_lower ho4 (below_size HW.zb)); replace HB := Aside0.mk (below_step HW.zb hb); clear hb ho4; have hcv5 := own_string (P := Tryz.prog) Tryz.underlying23 Tryz.underlying5 Tryz.underlying9 (Kd.own_of_R HO107.out)))
      go_ret
      exact ⟨rfl, HW.zb⟩
  rw [if_neg c2] at H; have c2b0 : decide (a0 < 10) = false := decide_eq_false c2; clear c2; replace H := Option.bind_eq_some_iff.mp H; obtain ⟨t108, A60, H⟩ := H; replace H : ((some (([(wrap64 (48 + (Int.tmod a0 10))) % 256] : List Int) : List Int)).bind fun y109 => (if t108.size + (strOfNums y109).size ≤ 9223372036854775807 then (some (t108 ++ (strOfNums y109))) else (none))) = some r := H; have A6 := Aside0.mk A60; clear A60; obtain ⟨y109, hy109⟩ : ∃ y_ : List Int, y_ = (([(wrap64 (48 + (Int.tmod a0 10))) % 256] : List Int)) := ⟨_, rfl⟩
  replace H : (if t108.size + (strOfNums y109).size ≤ 9223372036854775807 then (some (t108 ++ (strOfNums y109))) else (none)) = some r := by (try rw [hy109]); exact HW.rp
  have Ny109 := Aside0.mk hy109; clear hy109
  by_cases c7 : t108.size + (strOfNums y109).size ≤ 9223372036854775807
  rotate_left
  · rw [if_neg c7] at H
    exact absurd H (by simp)
  rw [if_pos c7] at H; have c7b0 := eq_true c7; have c7b1 : decide (t108.size + (strOfNums y109).size ≤ 9223372036854775807) = true := decide_eq_true c7
  try have c7b2 : (9223372036854775807 < t108.size + (strOfNums y109).size) = False := eq_false (Nat.not_lt.2 c7)
  as_aux_lemma =>
    obtain rfl := Option.some.inj H
    go_enter Tryz.func66, Tryz.ntmps66
    try go_wp2
    have n0_ := Aside0.mk (below_drew1 HB.out); clear HB; have HB := n0_; clear n0_
    refine start_ (n := 11) (S := fun w' => True) (ds := []) #[ff,ff,ff,ff,ff,ff,ff,ff,ff,ff,ff] (by kernel_rfl) rfl rfl trivial (fun hHeld => ?_); refine with_tabW spec_DocDigits.tab3 spec_DocDigits.bits3 (fun HT_ HW_ => ?_)
    generalize w.drew = w8 at HB hHeld ⊢
    refine HW.pz (i := 0) (N := some 10) #[tt,ff,ff,ff,ff,ff,ff,ff,ff,ff,ff] ?_ (hc := any_of HT_.out (by kernel_rfl))
    refine HW.pz (i := 1) (N := some 11) #[tt,tt,ff,ff,ff,ff,ff,ff,ff,ff,ff] ?_ (hc := any_of HT_.out (by kernel_rfl))
    refine HW.pz (i := 3) (N := some 13) #[tt,tt,ff,tt,ff,ff,ff,ff,ff,ff,ff] ?_ (hc := any_of HT_.out (by kernel_rfl))
    refine HW.pz (i := 4) (N := some 14) #[tt,tt,ff,tt,tt,ff,ff,ff,ff,ff,ff] ?_ (hc := any_of HT_.out (by kernel_rfl))
    refine HW.pz (i := 5) (N := some 15) #[tt,tt,ff,tt,tt,tt,ff,ff,ff,ff,ff] ?_ (hc := any_of HT_.out (by kernel_rfl))
    refine HW.pz (i := 6) (N := some 16) #[tt,tt,ff,tt,tt,tt,tt,ff,ff,ff,ff] ?_ (hc := any_of HT_.out (by kernel_rfl))
    refine join_ (σ := Value) 2 #[tt,tt,tt,tt,tt,tt,tt,tt,tt,ff,ff] (fun s_ => [(12, .string t108), (17, s_), (18, .string (strOfNums y109))]) (fun s_ w' => (Kd.R (Kd.int .u8) 5 w' w.heap.size (fun _ => True) s_ y109) ∧ (Below w.heap.size w w')) ?_ ?_
    rotate_left
    · intro hCont
      refine two_ (i := 2) (j := 7) (Ni := some 12) (Nj := some 17) #[tt,tt,tt,tt,tt,tt,tt,ff,ff,ff,ff] #[tt,tt,ff,tt,tt,tt,tt,tt,ff,ff,ff] rfl rfl rfl rfl (two_of HT_.out (by kernel_rfl)) (by decide) (by decide) (fun K hK => ?_) (fun K hK => ?_)
      · skip
        refine goes_ Tryz.func66 (by kernel_rfl) rfl #[.int .i64 (wrap64 (Int.tdiv a0 10))] (by rfl) rfl rfl HW.mt ?_
        with_reducible refine (ih k (by omega) (wrap64 (Int.tdiv a0 10)) t108 _ A6.out).mono ?_
        rintro e w9 ⟨rfl, hb⟩
        refine ⟨_, rfl, ?_⟩
        have n0_ := Aside0.mk (below_step HW.zb hb); clear HB; have HB := n0_; clear n0_
        (try clear hb)
        refine hK.out _ _ trivial (fun hHeld => ?_)
        clear hK K
        refine HW.nz (N := (some 12)) ?_
        refine one_ (i := 7) (N := some 17) #[tt,tt,tt,tt,tt,tt,tt,tt,ff,ff,ff] rfl rfl (one_of HT_.out (by kernel_rfl)) (by decide) (fun K hK => ?_)
        refine Kd.R_lit_step (Kd.int .u8) _ 5 ?hg (N := 17) ?hd (xs := ([(wrap64 (48 + (Int.tmod a0 10))) % 256] : List Int)) (inner := [.int .u8 ((wrap64 (48 + (Int.tmod a0 10))) % 256)]) (ok := fun _ => True) (okp := fun _ => True) ?hr ?hp (fun _ hk => hk) trivial (Below.refl _ _) (Nat.le_refl _) (by simp) ?_; (case hd => rfl); (case hg => rfl); (case hr => first | (go_simp; done) | (go_simp; rfl)); (case hp => exact (Reps.one (show Kd.M (Kd.int .u8) _ _ _ ((wrap64 (48 + (Int.tmod a0 10))) % 256) [.int .u8 ((wrap64 (48 + (Int.tmod a0 10))) % 256)] from rfl) (Reps.none _ _)))
        intro v110 w10 ho11 hb hg_ hnew_
        clear hg_ hnew_
        (first | rw [← Ny109.out] at ho11 | (simp only [Int.reduceToNat] at ho11; rw [← Ny109.out] at ho11))
        have HO111 := Aside0.mk (Kd.R_lower ho11 (below_size HW.zb)); replace HB := Aside0.mk (below_step HW.zb hb); clear hb ho11
        refine hK.out _ _ trivial (fun hHeld => ?_)
        clear hK K
        refine HW.nz (N := (some 17)) ?_
        refine one_ (i := 8) (N := some 18) #[tt,tt,tt,tt,tt,tt,tt,tt,tt,ff,ff] rfl rfl (one_of HT_.out (by kernel_rfl)) (by decide) (fun K hK => ?_)
        have hcv12 := own_string (P := Tryz.prog) Tryz.underlying23 Tryz.underlying5 Tryz.underlying9 (Kd.own_of_R HO111.out)
        refine value_ (w1 := ?_) (v := ?_) (by rfl) rfl ?_ ?_
        rotate_left 2
        · go_simp
          constructor
          · rfl
          rfl
        clear hcv12
        refine hK.out _ _ trivial (fun hHeld => ?_)
        clear hK K
        refine HW.nz (N := (some 18)) ?_
        exact norm_ (by simp only [putAll, Act.put, List.setIfInBounds_toArray, List.set_cons_zero, List.set_cons_succ, errW_none]) (hCont (v110) _ ⟨(HW.zR HO111.out), HW.zb⟩)
      skip
      refine Kd.R_lit_step (Kd.int .u8) _ 5 ?hg (N := 17) ?hd (xs := ([(wrap64 (48 + (Int.tmod a0 10))) % 256] : List Int)) (inner := [.int .u8 ((wrap64 (48 + (Int.tmod a0 10))) % 256)]) (ok := fun _ => True) (okp := fun _ => True) ?hr ?hp (fun _ hk => hk) trivial (Below.refl _ _) (Nat.le_refl _) (by simp) ?_; (case hd => rfl); (case hg => rfl); (case hr => first | (go_simp; done) | (go_simp; rfl)); (case hp => exact (Reps.one (show Kd.M (Kd.int .u8) _ _ _ ((wrap64 (48 + (Int.tmod a0 10))) % 256) [.int .u8 ((wrap64 (48 + (Int.tmod a0 10))) % 256)] from rfl) (Reps.none _ _)))
      intro v110 w9 ho10 hb hg_ hnew_
      clear hg_ hnew_
      (first | rw [← Ny109.out] at ho10 | (simp only [Int.reduceToNat] at ho10; rw [← Ny109.out] at ho10))
      have HO111 := Aside0.mk (Kd.R_lower ho10 (below_size HW.zb)); replace HB := Aside0.mk (below_step HW.zb hb); clear hb ho10
      refine hK.out _ _ trivial (fun hHeld => ?_)
      clear hK K
      refine HW.nz (N := (some 17)) ?_
      refine two_ (i := 2) (j := 8) (Ni := some 12) (Nj := some 18) #[tt,tt,tt,tt,tt,tt,tt,tt,ff,ff,ff] #[tt,tt,ff,tt,tt,tt,tt,tt,tt,ff,ff] rfl rfl rfl rfl (two_of HT_.out (by kernel_rfl)) (by decide) (by decide) (fun K hK => ?_) (fun K hK => ?_)
      · skip
        refine goes_ Tryz.func66 (by kernel_rfl) rfl #[.int .i64 (wrap64 (Int.tdiv a0 10))] (by rfl) rfl rfl HW.mt ?_
        with_reducible refine (ih k (by omega) (wrap64 (Int.tdiv a0 10)) t108 _ A6.out).mono ?_
        rintro e w11 ⟨rfl, hb⟩
        refine ⟨_, rfl, ?_⟩
        replace HO111 := Aside0.mk (Kd.R_below (HW.zR HO111.out) hb); replace HB := Aside0.mk (below_step HW.zb hb)
        (try clear hb)
        refine hK.out _ _ trivial (fun hHeld => ?_)
        clear hK K
        refine HW.nz (N := (some 12)) ?_
        refine one_ (i := 8) (N := some 18) #[tt,tt,tt,tt,tt,tt,tt,tt,tt,ff,ff] rfl rfl (one_of HT_.out (by kernel_rfl)) (by decide) (fun K hK => ?_)
        have hcv12 := own_string (P := Tryz.prog) Tryz.underlying23 Tryz.underlying5 Tryz.underlying9 (Kd.own_of_R HO111.out)
        refine value_ (w1 := ?_) (v := ?_) (by rfl) rfl ?_ ?_
        rotate_left 2
        · go_simp
          constructor
          · rfl
          rfl
        clear hcv12
        refine hK.out _ _ trivial (fun hHeld => ?_)
        clear hK K
        refine HW.nz (N := (some 18)) ?_
        exact norm_ (by simp only [putAll, Act.put, List.setIfInBounds_toArray, List.set_cons_zero, List.set_cons_succ, errW_none]) (hCont (v110) _ ⟨(HW.zR HO111.out), HW.zb⟩)
      skip
      have hcv11 := own_string (P := Tryz.prog) Tryz.underlying23 Tryz.underlying5 Tryz.underlying9 (Kd.own_of_R HO111.out)
      refine value_ (w1 := ?_) (v := ?_) (by rfl) rfl ?_ ?_
      rotate_left 2
      · go_simp
        constructor
        · rfl
        rfl
      clear hcv11
      refine hK.out _ _ trivial (fun hHeld => ?_)
      clear hK K
      refine HW.nz (N := (some 18)) ?_
      refine one_ (i := 2) (N := some 12) #[tt,tt,tt,tt,tt,tt,tt,tt,tt,ff,ff] rfl rfl (one_of HT_.out (by kernel_rfl)) (by decide) (fun K hK => ?_)
      refine goes_ Tryz.func66 (by kernel_rfl) rfl #[.int .i64 (wrap64 (Int.tdiv a0 10))] (by rfl) rfl rfl HW.mt ?_
      with_reducible refine (ih k (by omega) (wrap64 (Int.tdiv a0 10)) t108 _ A6.out).mono ?_
      rintro e w12 ⟨rfl, hb⟩
      refine ⟨_, rfl, ?_⟩
      replace HO111 := Aside0.mk (Kd.R_below (HW.zR HO111.out) hb); replace HB := Aside0.mk (below_step HW.zb hb)
      (try clear hb)
      refine hK.out _ _ trivial (fun hHeld => ?_)
      clear hK K
      refine HW.nz (N := (some 12)) ?_
      exact norm_ (by simp only [putAll, Act.put, List.setIfInBounds_toArray, List.set_cons_zero, List.set_cons_succ, errW_none]) (hCont (v110) _ ⟨(HW.zR HO111.out), HW.zb⟩)
    rintro v110 w13 ⟨h0_, h1_⟩
    have n0_ : Aside0 (Kd.R (Kd.int .u8) 5 w13 w.heap.size (fun _ => True) v110 y109) := ⟨h0_⟩; have n1_ : Aside0 (Below w.heap.size w w13) := ⟨h1_⟩; clear HB; clear h0_ h1_; have HO111 := n0_; have HB := n1_; clear n0_ n1_; have hHeld := trivial
    refine norm_ (a' := ?_) ?_ ?_
    rotate_left
    · simp only [putAll, Act.put, List.setIfInBounds_toArray, List.set_cons_zero, List.set_cons_succ, errW_none]
      rfl
    refine HW.pz (i := 9) (N := some 19) #[tt,tt,tt,tt,tt,tt,tt,tt,tt,tt,ff] ?_ (hc := any_of HT_.out (by kernel_rfl))
    refine HW.pz (i := 10) (N := some 2) #[tt,tt,tt,tt,tt,tt,tt,tt,tt,tt,tt] ?_ (hc := any_of HT_.out (by kernel_rfl))
    refine done_ (done_of HT_.out (by kernel_rfl)) ?_
    try go_wp2
    go_ret
    exact ⟨rfl, HW.zb⟩
end Go.Proofs.YtpbfigeaoefcmaaGreat.PBg
