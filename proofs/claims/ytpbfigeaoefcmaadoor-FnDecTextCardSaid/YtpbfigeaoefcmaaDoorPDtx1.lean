/- Printed by a program of this session (a turned copy of the printer of the kit): contracts of functions of the translation, each with the Lean function that it computes. Conditions: as each theorem states them. -/
import Derived.Test.YtpbfigeaoefcmaaDoorPDtx0
namespace Go.Proofs.YtpbfigeaoefcmaaDoor.PDt
open Go.RowKit Go.Proofs.YtpbfigeaoefcmaaDoorW.PrintWords Go.Proofs.YtpbfigeaoefcmaaDoorW.PrintLast Go.Proofs.YtpbfigeaoefcmaaDoorW.PrintMore
attribute [local go_sem] max2_int min2_int max_two min_two max_three min_three max_four min_four   -- for this text's walks alone
set_option linter.unusedVariables false
set_option linter.unusedSimpArgs false

/-! ### spec_decTenth: function 16 -/
/-- A limb with what is left of the one ahead of it. -/
def spec_decTenth.n (c x : Int) : Int := bits BinOp.or IntKind.u64 (IntKind.u64.wrap (c * 4294967296)) x
/-- A tenth of a number of 128 bits, rounded down, and the digit that is left. -/
def spec_decTenth.f (a0 a1 : Int) : Option (Int × Int × Int) :=
  let n0 := bits BinOp.or IntKind.u64 0 (a0 / 4294967296)
  let n1 := spec_decTenth.n (n0.tmod 10) (bits BinOp.and IntKind.u64 a0 4294967295)
  let n2 := spec_decTenth.n (n1.tmod 10) (a1 / 4294967296)
  let n3 := spec_decTenth.n (n2.tmod 10) (bits BinOp.and IntKind.u64 a1 4294967295)
  some (bits BinOp.or IntKind.u64 (IntKind.u64.wrap (IntKind.u64.wrap (n0.tdiv 10) * 4294967296)) (IntKind.u64.wrap (n1.tdiv 10)), bits BinOp.or IntKind.u64 (IntKind.u64.wrap (IntKind.u64.wrap (n2.tdiv 10) * 4294967296)) (IntKind.u64.wrap (n3.tdiv 10)), IntKind.u8.wrap (n3.tmod 10))
set_option maxHeartbeats 4000000 in
set_option maxRecDepth 100000 in
theorem spec_decTenth.calls (a0 a1 : Int) (r0 r1 r2 : Int) (w : World) (h : spec_decTenth.f a0 a1 = some (r0, r1, r2)) :
    Calls Tryd.prog 16 #[.int .u64 a0, .int .u64 a1] w fun e w' => e = .returned (.tuple #[.int .u64 r0, .int .u64 r1, .int .u8 r2]) ∧ Below w.heap.size w w' := by
  go_enter Tryd.func16, Tryd.ntmps16
  go_wp2
  refine wp_loop_rounds 5 ?_
  iterate 5
    rw [rounds_succ]
    go_wp2
  go_region
  go_wp2
  cases h
  refine bodyPost_ret (v := .tuple #[.int .u64 _, .int .u64 _, .int .u8 _]) (by simp [results, Tryd.results16, go_sem] <;> exact ⟨rfl, rfl, rfl⟩) rfl ⟨rfl, ((Below.refl _ w).alloc (Nat.le_refl _) _).drew⟩

/-! ### spec_decDigits: function 13 -/
mutual
def spec_decDigits.j0 : Nat → Int → Int → Bool → Option (ByteArray)
  | 0, _, _, _ => none
  | k + 1, x0, x1, x12 => if x12 = true then (some (⟨#[48]⟩ : ByteArray)) else (spec_decDigits.l0 k x0 x1 ([] : List Int))
def spec_decDigits.l0 : Nat → Int → Int → List Int → Option (ByteArray)
  | 0, _, _, _ => none
  | k + 1, x0, x1, x5 => if x0 = 0 then (spec_decDigits.j2 k x0 x1 x5 (x1 != 0)) else (spec_decDigits.j2 k x0 x1 x5 true)
def spec_decDigits.j2 : Nat → Int → Int → List Int → Bool → Option (ByteArray)
  | 0, _, _, _, _ => none
  | k + 1, x0, x1, x5, x18 => if x18 = true then ((spec_decTenth.f x0 x1).bind fun bt101 => ((some (([(48 + bt101.2.2) % 256] : List Int) : List Int)).bind fun y104 => (if y104.length + x5.length < 140737488355328 then (spec_decDigits.l0 k bt101.1 bt101.2.1 (y104 ++ x5)) else (none)))) else (some (strOfNums x5))
end
def spec_decDigits.f (k : Nat) (a0 : Int) (a1 : Int) : Option (ByteArray) := if a0 = 0 then (spec_decDigits.j0 k a0 a1 (a1 == 0)) else (spec_decDigits.j0 k a0 a1 false)
theorem spec_decDigits.mono_l : ∀ k, (∀ y0 y1 y2, LeO (spec_decDigits.j0 k y0 y1 y2) (spec_decDigits.j0 (k + 1) y0 y1 y2)) ∧ (∀ y0 y1 y2, LeO (spec_decDigits.l0 k y0 y1 y2) (spec_decDigits.l0 (k + 1) y0 y1 y2)) ∧ (∀ y0 y1 y2 y3, LeO (spec_decDigits.j2 k y0 y1 y2 y3) (spec_decDigits.j2 (k + 1) y0 y1 y2 y3))
  | 0 => ⟨fun _ _ _ r h => by simp [spec_decDigits.j0] at h, fun _ _ _ r h => by simp [spec_decDigits.l0] at h, fun _ _ _ _ r h => by simp [spec_decDigits.j2] at h⟩
  | k + 1 => by
    obtain ⟨ih0, ih1, ih2⟩ := spec_decDigits.mono_l k
    refine ⟨?_, ?_, ?_⟩
    · intro y0 y1 y2
      unfold spec_decDigits.j0
      repeat' first
      | (with_reducible exact ih0 _ _ _)
      | (with_reducible exact ih1 _ _ _)
      | (with_reducible exact ih2 _ _ _ _)
      | (with_reducible exact LeO.refl _)
      | (with_reducible exact LeO.none _)
      | (with_reducible refine LeO.ite ?_ ?_)
      | (with_reducible refine LeO.bind ?_ (fun _ => ?_))
      | exact ih0 _ _ _
      | exact ih1 _ _ _
      | exact ih2 _ _ _ _
      | exact LeO.none _
      | refine LeO.ite ?_ ?_
      | refine LeO.bind ?_ (fun _ => ?_)
    · intro y0 y1 y2
      unfold spec_decDigits.l0
      repeat' first
      | (with_reducible exact ih0 _ _ _)
      | (with_reducible exact ih1 _ _ _)
      | (with_reducible exact ih2 _ _ _ _)
      | (with_reducible exact LeO.refl _)
      | (with_reducible exact LeO.none _)
      | (with_reducible refine LeO.ite ?_ ?_)
      | (with_reducible refine LeO.bind ?_ (fun _ => ?_))
      | exact ih0 _ _ _
      | exact ih1 _ _ _
      | exact ih2 _ _ _ _
      | exact LeO.none _
      | refine LeO.ite ?_ ?_
      | refine LeO.bind ?_ (fun _ => ?_)
    · intro y0 y1 y2 y3
      unfold spec_decDigits.j2
      repeat' first
      | (with_reducible exact ih0 _ _ _)
      | (with_reducible exact ih1 _ _ _)
      | (with_reducible exact ih2 _ _ _ _)
      | (with_reducible exact LeO.refl _)
      | (with_reducible exact LeO.none _)
      | (with_reducible refine LeO.ite ?_ ?_)
      | (with_reducible refine LeO.bind ?_ (fun _ => ?_))
      | exact ih0 _ _ _
      | exact ih1 _ _ _
      | exact ih2 _ _ _ _
      | exact LeO.none _
      | refine LeO.ite ?_ ?_
      | refine LeO.bind ?_ (fun _ => ?_)
theorem spec_decDigits.mono : ∀ a0 a1 k, LeO (spec_decDigits.f k a0 a1) (spec_decDigits.f (k + 1) a0 a1) := by
  intro a0 a1 k
  obtain ⟨ih0, ih1, ih2⟩ := spec_decDigits.mono_l k
  unfold spec_decDigits.f
  repeat' first
      | (with_reducible exact ih0 _ _ _)
      | (with_reducible exact ih1 _ _ _)
      | (with_reducible exact ih2 _ _ _ _)
      | (with_reducible exact LeO.refl _)
      | (with_reducible exact LeO.none _)
      | (with_reducible refine LeO.ite ?_ ?_)
      | (with_reducible refine LeO.bind ?_ (fun _ => ?_))
      | exact ih0 _ _ _
      | exact ih1 _ _ _
      | exact ih2 _ _ _ _
      | exact LeO.none _
      | refine LeO.ite ?_ ?_
      | refine LeO.bind ?_ (fun _ => ?_)
set_option maxHeartbeats 8000000 in
set_option maxRecDepth 100000 in
theorem spec_decDigits.calls (k : Nat) (a0 : Int) (a1 : Int) (r : ByteArray) (w : World) (h : spec_decDigits.f k a0 a1 = some r) :
    Calls Tryd.prog 13 #[.int .u64 a0, .int .u64 a1] w fun e w' => e = .returned (.string r) ∧ Below w.heap.size w w' := by
  have HB := Aside0.mk (Below.refl w.heap.size w)
  have H : (if a0 = 0 then (spec_decDigits.j0 k a0 a1 (a1 == 0)) else (spec_decDigits.j0 k a0 a1 false)) = some r := h
  clear h
  have HC3 := Aside0.mk H
  clear H
  go_enter Tryd.func13, Tryd.ntmps13
  go_upto_region 1 with (fail)
  go_cut [12] (fun v12 wc => ∃ (kq : Nat) (x12_2 : Bool), v12 = .bool x12_2 ∧ Aside0 (spec_decDigits.j0 kq a0 a1 x12_2 = some r) ∧ Aside0 (kq ≤ k) ∧ Aside0 (Below w.heap.size w wc))
  case first =>
    have H := HC3.out
    clear HC3
    by_cases c4 : a0 = 0
    · rw [if_pos c4] at H
      have c4b0 : (a0 == 0) = true := beq_iff_eq.mpr c4
      have c4b1 : (a0 != 0) = false := bne_eq_false_iff_eq.mpr c4
      clear c4
      (first | rw [c4b0] | (simp only [i64_w, i32_w]; rw [c4b0]) | skip)
      as_aux_lemma =>
        have H' := Aside0.mk H
        clear H
        go_wp2
        go_meet
        case rel => exact ⟨_, ((a1 == 0)), (by first | rfl | (simp; done) | (simp [*]; done)), H', ⟨by first | omega | exact Nat.le_refl _⟩, ⟨HW.zb⟩⟩
    rw [if_neg c4] at H
    have c4b0 : (a0 == 0) = false := beq_eq_false_iff_ne.mpr c4
    have c4b1 : (a0 != 0) = true := bne_iff_ne.mpr c4
    (first | rw [c4b0] | (simp only [i64_w, i32_w]; rw [c4b0]) | skip)
    as_aux_lemma =>
      have H' := Aside0.mk H
      clear H
      go_wp2
      go_meet
      case rel => exact ⟨_, (false), (by first | rfl | (simp; done) | (simp [*]; done)), H', ⟨by first | omega | exact Nat.le_refl _⟩, ⟨HW.zb⟩⟩
  case rest =>
    clear HC3
    try clear c1
    try clear p2
    try clear c4
    try clear c4b0
    try clear c4b1
    obtain ⟨kq, x12_2, rfl, HA, HJ2, HB⟩ := hcut
    cases kq with
    | zero => exact absurd HA.out (by simp [spec_decDigits.j0])
    | succ kj2 =>
      have H := HA.out
      clear HA
      simp only [spec_decDigits.j0] at H
      by_cases c5 : x12_2 = true
      · subst c5
        have H1 : (some (⟨#[48]⟩ : ByteArray)) = some r := by rw [if_pos rfl] at H; exact H
        clear H
        have H := H1
        clear H1
        as_aux_lemma =>
          obtain rfl := Option.some.inj H
          go_wp2
          go_ret
          exact ⟨by first | rfl | (simp [errW_none, errW_some] <;> rfl) | (simp [*, errW_none, errW_some] <;> rfl), HW.zb⟩
      replace c5 := Bool.eq_false_iff.mpr c5
      subst c5
      have H1 : (spec_decDigits.l0 kj2 a0 a1 ([] : List Int)) = some r := by rw [if_neg (show ¬ (false = true) by decide)] at H; exact H
      clear H
      have H := H1
      clear H1
      have H' := Aside0.mk H
      clear H
      go_wp2
      go_loopg [0, 1, 5] kj2 (fun kq v0 v1 v5 w' => ∃ (x0_2 : Int) (x1_2 : Int) (x5_2 : List Int), v0 = .int .u64 x0_2 ∧ v1 = .int .u64 x1_2 ∧ Aside0 (spec_decDigits.l0 kq x0_2 x1_2 x5_2 = some r) ∧ Aside0 (kq ≤ kj2) ∧ Aside0 (Kd.R (Kd.int .u8) 5 w' w.heap.size (fun _ => True) v5 x5_2) ∧ Aside0 (Below w.heap.size w w'))
      case atStart => exact ⟨(a0), (a1), (([] : List Int)), (by first | rfl | (simp; done) | (simp [*]; done)), (by first | rfl | (simp; done) | (simp [*]; done)), H', ⟨Nat.le_refl _⟩, ⟨by first | exact Kd.R_nil _ _ _ _ _ | exact Kd.N_nil _ _ _ _ _ | exact Kd.V_nil _ _ _ _ _ | exact Kd.Q_nil _ _ _ _ _ | exact Kd.S_nil _ _ _ _ _⟩, ⟨HW.zb⟩⟩
      case round =>
        clear H'
        try clear c1
        try clear p2
        try clear c4
        try clear c4b0
        try clear c4b1
        try clear c5
        try clear p2
        obtain ⟨x0_2, x1_2, x5_2, rfl, rfl, HA, HK2, HO_5, HB⟩ := hrel
        cases gk with
        | zero => exact absurd HA.out (by simp [spec_decDigits.l0])
        | succ k2 =>
          have H := HA.out
          clear HA
          simp only [spec_decDigits.l0] at H
          have HC6 := Aside0.mk H
          clear H
          go_upto_region 4 with (fail)
          go_cut [18] (fun v18 wc => ∃ (kq : Nat) (x18_5 : Bool), v18 = .bool x18_5 ∧ Aside0 (spec_decDigits.j2 kq x0_2 x1_2 x5_2 x18_5 = some r) ∧ Aside0 (kq ≤ k2) ∧ Aside0 (Kd.R (Kd.int .u8) 5 wc w.heap.size (fun _ => True) u5 x5_2) ∧ Aside0 (Below w.heap.size w wc))
          case first =>
            have H := HC6.out
            clear HC6
            by_cases c7 : x0_2 = 0
            · rw [if_pos c7] at H
              have c7b0 : (x0_2 == 0) = true := beq_iff_eq.mpr c7
              have c7b1 : (x0_2 != 0) = false := bne_eq_false_iff_eq.mpr c7
              clear c7
              (first | rw [c7b0] | (simp only [i64_w, i32_w]; rw [c7b0]) | skip)
              as_aux_lemma =>
                have H' := Aside0.mk H
                clear H
                go_wp2
                go_meet
                case rel => exact ⟨_, ((x1_2 != 0)), (by first | rfl | (simp; done) | (simp [*]; done)), H', ⟨by have := HJ2.out; have := HK2.out; first | omega | exact Nat.le_refl _⟩, ⟨HW.zR HO_5.out⟩, ⟨HW.zb⟩⟩
            rw [if_neg c7] at H
            have c7b0 : (x0_2 == 0) = false := beq_eq_false_iff_ne.mpr c7
            have c7b1 : (x0_2 != 0) = true := bne_iff_ne.mpr c7
            (first | rw [c7b0] | (simp only [i64_w, i32_w]; rw [c7b0]) | skip)
            as_aux_lemma =>
              have H' := Aside0.mk H
              clear H
              go_wp2
              go_meet
              case rel => exact ⟨_, (true), (by first | rfl | (simp; done) | (simp [*]; done)), H', ⟨by have := HJ2.out; have := HK2.out; first | omega | exact Nat.le_refl _⟩, ⟨HW.zR HO_5.out⟩, ⟨HW.zb⟩⟩
          case rest =>
            clear HC6
            try clear c1
            try clear p2
            try clear c4
            try clear c4b0
            try clear c4b1
            try clear c5
            try clear c7
            try clear c7b0
            try clear c7b1
            try clear p2
            obtain ⟨kq, x18_5, rfl, HA, HJ5, HO_5, HB⟩ := hcut
            cases kq with
            | zero => exact absurd HA.out (by simp [spec_decDigits.j2])
            | succ kj5 =>
              have H := HA.out
              clear HA
              simp only [spec_decDigits.j2] at H
              by_cases c8 : x18_5 = true
              rotate_left
              · replace c8 := Bool.eq_false_iff.mpr c8
                subst c8
                have H1 : (some (strOfNums x5_2)) = some r := by rw [if_neg (show ¬ (false = true) by decide)] at H; exact H
                clear H
                have H := H1
                clear H1
                as_aux_lemma =>
                  obtain rfl := Option.some.inj H
                  have hcv16 := own_string (P := Tryd.prog) Tryd.underlying40 Tryd.underlying5 Tryd.underlying9 (Kd.own_of_R HO_5.out)
                  go_wp2
                  go_ret
                  exact ⟨by first | rfl | (simp [errW_none, errW_some] <;> rfl) | (simp [*, errW_none, errW_some] <;> rfl), HW.zb⟩
              subst c8
              have H1 : ((spec_decTenth.f x0_2 x1_2).bind fun bt101 => ((some (([(48 + bt101.2.2) % 256] : List Int) : List Int)).bind fun y104 => (if y104.length + x5_2.length < 140737488355328 then (spec_decDigits.l0 kj5 bt101.1 bt101.2.1 (y104 ++ x5_2)) else (none)))) = some r := by rw [if_pos rfl] at H; exact H
              clear H
              have H := H1
              clear H1
              replace H := Option.bind_eq_some_iff.mp H
              obtain ⟨⟨t101, t102, t103⟩, A90, H⟩ := H
              replace H : ((some (([(48 + t103) % 256] : List Int) : List Int)).bind fun y104 => (if y104.length + x5_2.length < 140737488355328 then (spec_decDigits.l0 kj5 t101 t102 (y104 ++ x5_2)) else (none))) = some r := H
              have A9 := Aside0.mk A90
              clear A90
              obtain ⟨y104, hy104⟩ : ∃ y_ : List Int, y_ = (([(48 + t103) % 256] : List Int)) := ⟨_, rfl⟩
              replace H : (if y104.length + x5_2.length < 140737488355328 then (spec_decDigits.l0 kj5 t101 t102 (y104 ++ x5_2)) else (none)) = some r := by first | (rw [hy104]; with_reducible exact H) | (have H2_ := (Option.bind_some _ _).symm.trans H; rw [hy104]; with_reducible exact H2_) | (have H2_ := (Option.bind_some _ _).symm.trans H; with_reducible exact H2_) | with_reducible exact H | (rw [hy104]; exact H) | exact H
              have Ny104 := Aside0.mk hy104
              clear hy104
              by_cases c10 : y104.length + x5_2.length < 140737488355328
              rotate_left
              · rw [if_neg c10] at H
                exact absurd H (by simp)
              rw [if_pos c10] at H
              have LMc10 := Aside0.mk c10
              clear c10
              obtain ⟨y107, hy107⟩ : ∃ y_ : List Int, y_ = (y104 ++ x5_2) := ⟨_, rfl⟩
              replace H : (spec_decDigits.l0 kj5 t101 t102 y107) = some r := by first | (rw [hy107]; with_reducible exact H) | (have H2_ := (Option.bind_some _ _).symm.trans H; rw [hy107]; with_reducible exact H2_) | (have H2_ := (Option.bind_some _ _).symm.trans H; with_reducible exact H2_) | with_reducible exact H | (rw [hy107]; exact H) | exact H
              have Ny107 := Aside0.mk hy107
              clear hy107
              as_aux_lemma =>
                have H' := Aside0.mk H
                clear H
                go_wp2_with (first | ((with_reducible refine gate_callee (f := 16) rfl ?_); refine HW.gz (some 22) rfl rfl Tryd.func16 (by kernel_rfl) rfl #[.int .u64 x0_2, .int .u64 x1_2] rfl ?_; (with_reducible refine (spec_decTenth.calls x0_2 x1_2 t101 t102 t103 _ A9.out).mono ?_); rintro e w11 ⟨rfl, hb⟩; refine ⟨_, rfl, ?_⟩; have n0_ := Aside0.mk (Kd.R_below (HW.zR HO_5.out) hb); have n1_ := Aside0.mk (below_step HW.zb hb); clear HO_5; clear HB; have HO_5 := n0_; have HB := n1_; clear n0_ n1_; (try clear hb); (try clear hb2); (try clear hk); (try clear hi)) | ((with_reducible refine gate_dst (N := 28) rfl ?_); refine Kd.R_lit (Kd.int .u8) _ 5 ?hg (N := 28) ?hd (xs := ([(48 + t103) % 256] : List Int)) (inner := [.int .u8 ((48 + t103) % 256)]) (ok := fun _ => True) (okp := fun _ => True) ?hr ?hp (fun _ hk => hk) trivial (Below.refl _ _) (Nat.le_refl _) (by simp) ?_; (case hd => rfl); (case hg => rfl); (case hr => first | (go_simp; done) | (go_simp; rfl)); (case hp => exact (Reps.one (show Kd.M (Kd.int .u8) _ _ _ ((48 + t103) % 256) [.int .u8 ((48 + t103) % 256)] from rfl) (Reps.none _ _))); intro v105 w12 ho13 hb hg_ hnew_; clear hg_ hnew_; (first | rw [← Ny104.out] at ho13 | (simp only [Int.reduceToNat] at ho13; rw [← Ny104.out] at ho13)); have n0_ := Aside0.mk (Kd.R_elder' (HW.zR HO_5.out) (Kd.R_base ho13) hb); have n1_ := Aside0.mk (Kd.R_lower (Kd.R_new' ho13 (Kd.R_lt (HW.zR HO_5.out))) (below_size HW.zb)); have n2_ := Aside0.mk (below_step HW.zb hb); clear HO_5; clear HB; have HO_5 := n0_; have HO106 := n1_; have HB := n2_; clear n0_ n1_ n2_; clear hb ho13; obtain ⟨Ao15, co15, eo15⟩ := Kd.R_slice HO_5.out; subst eo15) | ((with_reducible refine gate_builtin (b := .append) (xs := #[.tmp 28, .tmp 29]) rfl ?_); at_builtin; refine Kd.R_append_rows (Kd.int .u8) (w0 := w) w.heap.size rfl (.tmp 28) (.tmp 29) 40 5 (.int .u8 0) 1 rfl Tryd.underlying40 info5 rfl (by decide) (by omega) v105 y104 x5_2 _ _ _ (fun k_ => some k_ ≠ (.slice Ao15 x5_2.length co15 : Value).ownBlock) (fun _ => False) rfl rfl ?aO ?aR (fun _ _ h => h) (fun _ h => h.elim) ?aF ?aB ?aS ?aL ?_; (case aR => repeat (first | exact (Kd.R_reads' HO_5.out).2.2 | (with_reducible refine Kd.C_alloc ?_ _) | (with_reducible refine Kd.C_drewN ?_ _) | (with_reducible refine Kd.C_drew ?_))); (case aB => exact HW.zb); (case aF => exact (fun k_ hk => Kd.fresh' (Kd.R_lt (HW.zR HO_5.out)) k_ hk)); (case aO => exact (HW.zR (Kd.R_mono HO106.out (fun _ hk => hk.2)))); (case aS => exact (below_size HW.zb)); (case aL => have := LMc10.out; omega); intro v108 w14 ho hb hg hat; rw [← Ny107.out] at ho; have n1_ := Aside0.mk (hb); have n2_ := Aside0.mk (ho); clear HB; clear HO106; have HB := n1_; have HO109 := n2_; clear n1_ n2_; clear ho hb hg hat))
                go_roundg kj5
                case measure => have := HJ2.out; have := HK2.out; have := HJ5.out; omega
                case rel => exact ⟨(t101), (t102), (y107), (by first | rfl | (simp; done) | (simp [*]; done)), (by first | rfl | (simp; done) | (simp [*]; done)), H', ⟨by have := HJ2.out; have := HK2.out; have := HJ5.out; omega⟩, ⟨by (with_reducible repeat (first | apply Kd.R_alloc | apply Kd.R_drewN | apply Kd.R_drew)); exact Kd.R_mono HO109.out (fun _ hk => trivial)⟩, ⟨HW.zb⟩⟩

/-! ### spec_DecOf: function 7 -/
def spec_DecOf.f (k : Nat) (a0 : Int) (a1 : Int) : Option (Int × Bool × ByteArray × Int) := if (Go.bits .and .u64 (a0 / 288230376151711744) 31) = 30 then (some (1, ((a0 / 9223372036854775808) == 1), (⟨#[]⟩ : ByteArray), 0)) else (if (Go.bits .and .u64 (a0 / 288230376151711744) 31) = 31 then (some (2, ((a0 / 9223372036854775808) == 1), (⟨#[]⟩ : ByteArray), 0)) else (if (Go.bits .and .u64 (a0 / 2305843009213693952) 3) = 3 then (some (0, ((a0 / 9223372036854775808) == 1), (⟨#[48]⟩ : ByteArray), wrap64 ((wrap64 (Go.bits .and .u64 (a0 / 140737488355328) 16383)) + (-6176)))) else ((spec_decDigits.f k (Go.bits .and .u64 a0 562949953421311) a1).bind fun t112 => (some (0, ((a0 / 9223372036854775808) == 1), t112, wrap64 ((wrap64 (Go.bits .and .u64 (a0 / 562949953421312) 16383)) + (-6176)))))))
theorem spec_DecOf.mono : ∀ a0 a1 k, LeO (spec_DecOf.f k a0 a1) (spec_DecOf.f (k + 1) a0 a1) := by
  intro a0 a1 k
  unfold spec_DecOf.f
  repeat' first
      | (with_reducible exact spec_decDigits.mono _ _ _)
      | (with_reducible exact LeO.refl _)
      | (with_reducible exact LeO.none _)
      | (with_reducible refine LeO.ite ?_ ?_)
      | (with_reducible refine LeO.bind ?_ (fun _ => ?_))
      | exact spec_decDigits.mono _ _ _
      | exact LeO.none _
      | refine LeO.ite ?_ ?_
      | refine LeO.bind ?_ (fun _ => ?_)
set_option maxHeartbeats 8000000 in
set_option maxRecDepth 100000 in
theorem spec_DecOf.calls (k : Nat) (a0 : Int) (a1 : Int) (r1 : Int) (r2 : Bool) (r3 : ByteArray) (r4 : Int) (w : World) (h : spec_DecOf.f k a0 a1 = some (r1, r2, r3, r4)) :
    Calls Tryd.prog 7 #[.int .u64 a0, .int .u64 a1] w fun e w' => e = .returned (.agg #[.int .i64 r1, .bool r2, .string r3, .int .i64 r4]) ∧ Below w.heap.size w w' := by
  have hu27 := Tryd.underlying27
  have HB := Aside0.mk (Below.refl w.heap.size w)
  have H : (if (Go.bits .and .u64 (a0 / 288230376151711744) 31) = 30 then (some (1, ((a0 / 9223372036854775808) == 1), (⟨#[]⟩ : ByteArray), 0)) else (if (Go.bits .and .u64 (a0 / 288230376151711744) 31) = 31 then (some (2, ((a0 / 9223372036854775808) == 1), (⟨#[]⟩ : ByteArray), 0)) else (if (Go.bits .and .u64 (a0 / 2305843009213693952) 3) = 3 then (some (0, ((a0 / 9223372036854775808) == 1), (⟨#[48]⟩ : ByteArray), wrap64 ((wrap64 (Go.bits .and .u64 (a0 / 140737488355328) 16383)) + (-6176)))) else ((spec_decDigits.f k (Go.bits .and .u64 a0 562949953421311) a1).bind fun t112 => (some (0, ((a0 / 9223372036854775808) == 1), t112, wrap64 ((wrap64 (Go.bits .and .u64 (a0 / 562949953421312) 16383)) + (-6176)))))))) = some (r1, r2, r3, r4) := h
  clear h
  by_cases c3 : (Go.bits .and .u64 (a0 / 288230376151711744) 31) = 30
  · rw [if_pos c3] at H
    have c3b0 : ((Go.bits .and .u64 (a0 / 288230376151711744) 31) == 30) = true := beq_iff_eq.mpr c3
    have c3b1 : ((Go.bits .and .u64 (a0 / 288230376151711744) 31) != 30) = false := bne_eq_false_iff_eq.mpr c3
    clear c3
    focus
      simp only [Option.some.injEq, Prod.mk.injEq] at H
      obtain ⟨rfl, rfl, rfl, rfl⟩ := H
      go_enter Tryd.func7, Tryd.ntmps7
      go_wp2_with (first | ((with_reducible refine gate_dst (N := 4) rfl ?_); refine box_event ?hg (N := 4) ?hd (cs := #[.int .i64 0, .bool false, .string (⟨#[]⟩ : ByteArray), .int .i64 0]) (t := 27) ?hr ?_; (case hd => rfl); (case hg => rfl); (case hr => first | (go_simp; done) | (go_simp; rfl)); intro gb110 hg w4 hbox hb; have n0_ := Aside0.mk (below_step HW.zb hb); have n1_ := Aside0.mk (hbox); have n3_ := Aside0.mk ((by rw [hg]; exact (below_size HW.zb) : w.heap.size ≤ gb110)); clear HB; have HB := n0_; have BK110 := n1_; have GE110 := n3_; clear n0_ n1_ n3_; clear hb hbox hg) | ((with_reducible refine gate_dst (N := 5) rfl ?_); refine box_event ?hg (N := 5) ?hd (cs := #[.int .i64 0, .bool false, .string (⟨#[]⟩ : ByteArray), .int .i64 0]) (t := 27) ?hr ?_; (case hd => rfl); (case hg => rfl); (case hr => first | (go_simp; done) | (go_simp; rfl)); intro gb111 hg w5 hbox hb; have n0_ := Aside0.mk (blk_below (g := gb110) (o := .cells #[.int .i64 0, .bool false, .string (⟨#[]⟩ : ByteArray), .int .i64 0] 27 (0, 0)) (HW.zB BK110.out) hb); have n1_ := Aside0.mk (below_step HW.zb hb); have n2_ := Aside0.mk (hbox); have n4_ := Aside0.mk ((by rw [hg]; exact (below_size HW.zb) : w.heap.size ≤ gb111)); have n5_ := Aside0.mk ((by rw [hg]; exact Nat.ne_of_lt (blk_lt (g := gb110) (o := .cells #[.int .i64 0, .bool false, .string (⟨#[]⟩ : ByteArray), .int .i64 0] 27 (0, 0)) (HW.zB BK110.out)) : gb110 ≠ gb111)); have n6_ := Aside0.mk ((by rw [hg]; exact Nat.ne_of_gt (blk_lt (g := gb110) (o := .cells #[.int .i64 0, .bool false, .string (⟨#[]⟩ : ByteArray), .int .i64 0] 27 (0, 0)) (HW.zB BK110.out)) : gb111 ≠ gb110)); clear BK110; clear HB; have BK110 := n0_; have HB := n1_; have BK111 := n2_; have GE111 := n4_; have NB110_111 := n5_; have NB111_110 := n6_; clear n0_ n1_ n2_ n4_ n5_ n6_; clear hb hbox hg; have hnb6 := NB111_110.out; have hnc6 := NB110_111.out; have hcz7_0 := HW.zc BK111.out 0 (.int .i64 0); have hcz7_1 := HW.zc BK111.out 1 (.bool false); have hcz7_2 := HW.zc BK111.out 2 (.string (⟨#[]⟩ : ByteArray)); have hcz7_3 := HW.zc BK111.out 3 (.int .i64 0); have hfz8_0 := blk_frozen BK111.out 0; have hfz8_1 := blk_frozen BK111.out 1; have hfz8_2 := blk_frozen BK111.out 2; have hfz8_3 := blk_frozen BK111.out 3; have hcz9_0 := HW.zc BK110.out 0 (.int .i64 0); have hcz9_1 := HW.zc BK110.out 1 (.bool false); have hcz9_2 := HW.zc BK110.out 2 (.string (⟨#[]⟩ : ByteArray)); have hcz9_3 := HW.zc BK110.out 3 (.int .i64 0); have hfz10_0 := blk_frozen BK110.out 0; have hfz10_1 := blk_frozen BK110.out 1; have hfz10_2 := blk_frozen BK110.out 2; have hfz10_3 := blk_frozen BK110.out 3))
      refine bodyPost_ret (results_cell_row rfl _ _ gb110 27 #[.int .i64 1, .bool ((a0 / 9223372036854775808) == 1), .string (⟨#[]⟩ : ByteArray), .int .i64 0] (0, 0) _ rfl (by (with_reducible repeat (first | refine blk_drewN ?_ _ | refine blk_drew ?_ | refine blk_alloc ?_ _)); refine blk_put (cs := #[.int .i64 1, .bool ((a0 / 9223372036854775808) == 1), .string (⟨#[]⟩ : ByteArray), .int .i64 0]) ?_ 3 _ rfl; (with_reducible repeat (first | refine blk_drewN ?_ _ | refine blk_drew ?_ | refine blk_alloc ?_ _)); refine blk_put (cs := #[.int .i64 1, .bool ((a0 / 9223372036854775808) == 1), .string (⟨#[]⟩ : ByteArray), .int .i64 0]) ?_ 2 _ rfl; (with_reducible repeat (first | refine blk_drewN ?_ _ | refine blk_drew ?_ | refine blk_alloc ?_ _)); refine blk_put (cs := #[.int .i64 1, .bool false, .string (⟨#[]⟩ : ByteArray), .int .i64 0]) ?_ 1 _ rfl; (with_reducible repeat (first | refine blk_drewN ?_ _ | refine blk_drew ?_ | refine blk_alloc ?_ _)); refine blk_put (cs := #[.int .i64 0, .bool false, .string (⟨#[]⟩ : ByteArray), .int .i64 0]) ?_ 0 _ rfl; (with_reducible repeat (first | refine blk_drewN ?_ _ | refine blk_drew ?_ | refine blk_alloc ?_ _)); refine blk_far ?_ NB110_111.out _; (with_reducible repeat (first | refine blk_drewN ?_ _ | refine blk_drew ?_ | refine blk_alloc ?_ _)); refine blk_far ?_ NB110_111.out _; (with_reducible repeat (first | refine blk_drewN ?_ _ | refine blk_drew ?_ | refine blk_alloc ?_ _)); refine blk_far ?_ NB110_111.out _; (with_reducible repeat (first | refine blk_drewN ?_ _ | refine blk_drew ?_ | refine blk_alloc ?_ _)); refine blk_far ?_ NB110_111.out _; (with_reducible repeat (first | refine blk_drewN ?_ _ | refine blk_drew ?_ | refine blk_alloc ?_ _)); refine blk_far ?_ NB110_111.out _; (with_reducible repeat (first | refine blk_drewN ?_ _ | refine blk_drew ?_ | refine blk_alloc ?_ _)); exact BK110.out) Tryd.underlying27 rfl (by kernel_rfl)) rfl ?_
      exact ⟨by first | rfl | (simp [errW_none, errW_some] <;> rfl) | (simp [*, errW_none, errW_some] <;> rfl), HW.zb⟩
  rw [if_neg c3] at H
  have c3b0 : ((Go.bits .and .u64 (a0 / 288230376151711744) 31) == 30) = false := beq_eq_false_iff_ne.mpr c3
  have c3b1 : ((Go.bits .and .u64 (a0 / 288230376151711744) 31) != 30) = true := bne_iff_ne.mpr c3
  by_cases c11 : (Go.bits .and .u64 (a0 / 288230376151711744) 31) = 31
  · rw [if_pos c11] at H
    have c11b0 : ((Go.bits .and .u64 (a0 / 288230376151711744) 31) == 31) = true := beq_iff_eq.mpr c11
    have c11b1 : ((Go.bits .and .u64 (a0 / 288230376151711744) 31) != 31) = false := bne_eq_false_iff_eq.mpr c11
    clear c11
    focus
      simp only [Option.some.injEq, Prod.mk.injEq] at H
      obtain ⟨rfl, rfl, rfl, rfl⟩ := H
      go_enter Tryd.func7, Tryd.ntmps7
      go_wp2_with (first | ((with_reducible refine gate_dst (N := 4) rfl ?_); refine box_event ?hg (N := 4) ?hd (cs := #[.int .i64 0, .bool false, .string (⟨#[]⟩ : ByteArray), .int .i64 0]) (t := 27) ?hr ?_; (case hd => rfl); (case hg => rfl); (case hr => first | (go_simp; done) | (go_simp; rfl)); intro gb110 hg w12 hbox hb; have n0_ := Aside0.mk (below_step HW.zb hb); have n1_ := Aside0.mk (hbox); have n3_ := Aside0.mk ((by rw [hg]; exact (below_size HW.zb) : w.heap.size ≤ gb110)); clear HB; have HB := n0_; have BK110 := n1_; have GE110 := n3_; clear n0_ n1_ n3_; clear hb hbox hg) | ((with_reducible refine gate_dst (N := 5) rfl ?_); refine box_event ?hg (N := 5) ?hd (cs := #[.int .i64 0, .bool false, .string (⟨#[]⟩ : ByteArray), .int .i64 0]) (t := 27) ?hr ?_; (case hd => rfl); (case hg => rfl); (case hr => first | (go_simp; done) | (go_simp; rfl)); intro gb111 hg w13 hbox hb; have n0_ := Aside0.mk (blk_below (g := gb110) (o := .cells #[.int .i64 0, .bool false, .string (⟨#[]⟩ : ByteArray), .int .i64 0] 27 (0, 0)) (HW.zB BK110.out) hb); have n1_ := Aside0.mk (below_step HW.zb hb); have n2_ := Aside0.mk (hbox); have n4_ := Aside0.mk ((by rw [hg]; exact (below_size HW.zb) : w.heap.size ≤ gb111)); have n5_ := Aside0.mk ((by rw [hg]; exact Nat.ne_of_lt (blk_lt (g := gb110) (o := .cells #[.int .i64 0, .bool false, .string (⟨#[]⟩ : ByteArray), .int .i64 0] 27 (0, 0)) (HW.zB BK110.out)) : gb110 ≠ gb111)); have n6_ := Aside0.mk ((by rw [hg]; exact Nat.ne_of_gt (blk_lt (g := gb110) (o := .cells #[.int .i64 0, .bool false, .string (⟨#[]⟩ : ByteArray), .int .i64 0] 27 (0, 0)) (HW.zB BK110.out)) : gb111 ≠ gb110)); clear BK110; clear HB; have BK110 := n0_; have HB := n1_; have BK111 := n2_; have GE111 := n4_; have NB110_111 := n5_; have NB111_110 := n6_; clear n0_ n1_ n2_ n4_ n5_ n6_; clear hb hbox hg; have hnb14 := NB111_110.out; have hnc14 := NB110_111.out; have hcz15_0 := HW.zc BK111.out 0 (.int .i64 0); have hcz15_1 := HW.zc BK111.out 1 (.bool false); have hcz15_2 := HW.zc BK111.out 2 (.string (⟨#[]⟩ : ByteArray)); have hcz15_3 := HW.zc BK111.out 3 (.int .i64 0); have hfz16_0 := blk_frozen BK111.out 0; have hfz16_1 := blk_frozen BK111.out 1; have hfz16_2 := blk_frozen BK111.out 2; have hfz16_3 := blk_frozen BK111.out 3; have hcz17_0 := HW.zc BK110.out 0 (.int .i64 0); have hcz17_1 := HW.zc BK110.out 1 (.bool false); have hcz17_2 := HW.zc BK110.out 2 (.string (⟨#[]⟩ : ByteArray)); have hcz17_3 := HW.zc BK110.out 3 (.int .i64 0); have hfz18_0 := blk_frozen BK110.out 0; have hfz18_1 := blk_frozen BK110.out 1; have hfz18_2 := blk_frozen BK110.out 2; have hfz18_3 := blk_frozen BK110.out 3))
      refine bodyPost_ret (results_cell_row rfl _ _ gb110 27 #[.int .i64 2, .bool ((a0 / 9223372036854775808) == 1), .string (⟨#[]⟩ : ByteArray), .int .i64 0] (0, 0) _ rfl (by (with_reducible repeat (first | refine blk_drewN ?_ _ | refine blk_drew ?_ | refine blk_alloc ?_ _)); refine blk_put (cs := #[.int .i64 2, .bool ((a0 / 9223372036854775808) == 1), .string (⟨#[]⟩ : ByteArray), .int .i64 0]) ?_ 3 _ rfl; (with_reducible repeat (first | refine blk_drewN ?_ _ | refine blk_drew ?_ | refine blk_alloc ?_ _)); refine blk_put (cs := #[.int .i64 2, .bool ((a0 / 9223372036854775808) == 1), .string (⟨#[]⟩ : ByteArray), .int .i64 0]) ?_ 2 _ rfl; (with_reducible repeat (first | refine blk_drewN ?_ _ | refine blk_drew ?_ | refine blk_alloc ?_ _)); refine blk_put (cs := #[.int .i64 2, .bool false, .string (⟨#[]⟩ : ByteArray), .int .i64 0]) ?_ 1 _ rfl; (with_reducible repeat (first | refine blk_drewN ?_ _ | refine blk_drew ?_ | refine blk_alloc ?_ _)); refine blk_put (cs := #[.int .i64 0, .bool false, .string (⟨#[]⟩ : ByteArray), .int .i64 0]) ?_ 0 _ rfl; (with_reducible repeat (first | refine blk_drewN ?_ _ | refine blk_drew ?_ | refine blk_alloc ?_ _)); refine blk_far ?_ NB110_111.out _; (with_reducible repeat (first | refine blk_drewN ?_ _ | refine blk_drew ?_ | refine blk_alloc ?_ _)); refine blk_far ?_ NB110_111.out _; (with_reducible repeat (first | refine blk_drewN ?_ _ | refine blk_drew ?_ | refine blk_alloc ?_ _)); refine blk_far ?_ NB110_111.out _; (with_reducible repeat (first | refine blk_drewN ?_ _ | refine blk_drew ?_ | refine blk_alloc ?_ _)); refine blk_far ?_ NB110_111.out _; (with_reducible repeat (first | refine blk_drewN ?_ _ | refine blk_drew ?_ | refine blk_alloc ?_ _)); refine blk_far ?_ NB110_111.out _; (with_reducible repeat (first | refine blk_drewN ?_ _ | refine blk_drew ?_ | refine blk_alloc ?_ _)); exact BK110.out) Tryd.underlying27 rfl (by kernel_rfl)) rfl ?_
      exact ⟨by first | rfl | (simp [errW_none, errW_some] <;> rfl) | (simp [*, errW_none, errW_some] <;> rfl), HW.zb⟩
  rw [if_neg c11] at H
  have c11b0 : ((Go.bits .and .u64 (a0 / 288230376151711744) 31) == 31) = false := beq_eq_false_iff_ne.mpr c11
  have c11b1 : ((Go.bits .and .u64 (a0 / 288230376151711744) 31) != 31) = true := bne_iff_ne.mpr c11
  by_cases c19 : (Go.bits .and .u64 (a0 / 2305843009213693952) 3) = 3
  · rw [if_pos c19] at H
    have c19b0 : ((Go.bits .and .u64 (a0 / 2305843009213693952) 3) == 3) = true := beq_iff_eq.mpr c19
    have c19b1 : ((Go.bits .and .u64 (a0 / 2305843009213693952) 3) != 3) = false := bne_eq_false_iff_eq.mpr c19
    clear c19
    focus
      simp only [Option.some.injEq, Prod.mk.injEq] at H
      obtain ⟨rfl, rfl, rfl, rfl⟩ := H
      go_enter Tryd.func7, Tryd.ntmps7
      go_upto_region 10 with (first | ((with_reducible refine gate_dst (N := 4) rfl ?_); refine box_event ?hg (N := 4) ?hd (cs := #[.int .i64 0, .bool false, .string (⟨#[]⟩ : ByteArray), .int .i64 0]) (t := 27) ?hr ?_; (case hd => rfl); (case hg => rfl); (case hr => first | (go_simp; done) | (go_simp; rfl)); intro gb110 hg w20 hbox hb; have n0_ := Aside0.mk (below_step HW.zb hb); have n1_ := Aside0.mk (hbox); have n3_ := Aside0.mk ((by rw [hg]; exact (below_size HW.zb) : w.heap.size ≤ gb110)); clear HB; have HB := n0_; have BK110 := n1_; have GE110 := n3_; clear n0_ n1_ n3_; clear hb hbox hg) | ((with_reducible refine gate_dst (N := 5) rfl ?_); refine box_event ?hg (N := 5) ?hd (cs := #[.int .i64 0, .bool false, .string (⟨#[]⟩ : ByteArray), .int .i64 0]) (t := 27) ?hr ?_; (case hd => rfl); (case hg => rfl); (case hr => first | (go_simp; done) | (go_simp; rfl)); intro gb111 hg w21 hbox hb; have n0_ := Aside0.mk (blk_below (g := gb110) (o := .cells #[.int .i64 0, .bool false, .string (⟨#[]⟩ : ByteArray), .int .i64 0] 27 (0, 0)) (HW.zB BK110.out) hb); have n1_ := Aside0.mk (below_step HW.zb hb); have n2_ := Aside0.mk (hbox); have n4_ := Aside0.mk ((by rw [hg]; exact (below_size HW.zb) : w.heap.size ≤ gb111)); have n5_ := Aside0.mk ((by rw [hg]; exact Nat.ne_of_lt (blk_lt (g := gb110) (o := .cells #[.int .i64 0, .bool false, .string (⟨#[]⟩ : ByteArray), .int .i64 0] 27 (0, 0)) (HW.zB BK110.out)) : gb110 ≠ gb111)); have n6_ := Aside0.mk ((by rw [hg]; exact Nat.ne_of_gt (blk_lt (g := gb110) (o := .cells #[.int .i64 0, .bool false, .string (⟨#[]⟩ : ByteArray), .int .i64 0] 27 (0, 0)) (HW.zB BK110.out)) : gb111 ≠ gb110)); clear BK110; clear HB; have BK110 := n0_; have HB := n1_; have BK111 := n2_; have GE111 := n4_; have NB110_111 := n5_; have NB111_110 := n6_; clear n0_ n1_ n2_ n4_ n5_ n6_; clear hb hbox hg; have hnb22 := NB111_110.out; have hnc22 := NB110_111.out; have hcz23_0 := HW.zc BK111.out 0 (.int .i64 0); have hcz23_1 := HW.zc BK111.out 1 (.bool false); have hcz23_2 := HW.zc BK111.out 2 (.string (⟨#[]⟩ : ByteArray)); have hcz23_3 := HW.zc BK111.out 3 (.int .i64 0); have hfz24_0 := blk_frozen BK111.out 0; have hfz24_1 := blk_frozen BK111.out 1; have hfz24_2 := blk_frozen BK111.out 2; have hfz24_3 := blk_frozen BK111.out 3; have hcz25_0 := HW.zc BK110.out 0 (.int .i64 0); have hcz25_1 := HW.zc BK110.out 1 (.bool false); have hcz25_2 := HW.zc BK110.out 2 (.string (⟨#[]⟩ : ByteArray)); have hcz25_3 := HW.zc BK110.out 3 (.int .i64 0); have hfz26_0 := blk_frozen BK110.out 0; have hfz26_1 := blk_frozen BK110.out 1; have hfz26_2 := blk_frozen BK110.out 2; have hfz26_3 := blk_frozen BK110.out 3))
      iterate 10 (go_step; (try go_step); (try go_simp))
      simp only [i64_w]
      obtain ⟨W1, hW1⟩ : ∃ W1, W1 = ((((((w21.setCell ⟨gb111, 0, none⟩ (.int .i64 0)).setCell ⟨gb111, 1, none⟩ (.bool ((a0 / 9223372036854775808) == 1))).setCell ⟨gb111, 2, none⟩ (.string (⟨#[]⟩ : ByteArray))).setCell ⟨gb111, 3, none⟩ (.int .i64 0)).setCell ⟨gb111, 2, none⟩ (.string (⟨#[48]⟩ : ByteArray))).setCell ⟨gb111, 3, none⟩ (.int .i64 (wrap64 ((wrap64 (Go.bits .and .u64 (a0 / 140737488355328) 16383)) + (-6176))))) := ⟨_, rfl⟩
      rw [← hW1]
      have n0_ : W1.heap[gb111]? = some (.cells #[.int .i64 0, .bool ((a0 / 9223372036854775808) == 1), .string (⟨#[48]⟩ : ByteArray), .int .i64 (wrap64 ((wrap64 (Go.bits .and .u64 (a0 / 140737488355328) 16383)) + (-6176)))] 27 (0, 0)) := by rw [hW1]; exact blk_put (blk_put (blk_put (blk_put (blk_put (blk_put BK111.out 0 _ rfl) 1 _ rfl) 2 _ rfl) 3 _ rfl) 2 _ rfl) 3 _ rfl
      have n1_ : W1.heap[gb110]? = some (.cells #[.int .i64 0, .bool false, .string (⟨#[]⟩ : ByteArray), .int .i64 0] 27 (0, 0)) := by rw [hW1]; exact blk_far (blk_far (blk_far (blk_far (blk_far (blk_far BK110.out NB110_111.out _) NB110_111.out _) NB110_111.out _) NB110_111.out _) NB110_111.out _) NB110_111.out _
      have n2_ : Below w.heap.size w W1 := by rw [hW1]; exact below_set (below_set (below_set (below_set (below_set (below_set HB.out GE111.out) GE111.out) GE111.out) GE111.out) GE111.out) GE111.out
      clear hW1 BK110 BK111 HB
      have BK111 := Aside0.mk n0_
      have BK110 := Aside0.mk n1_
      have HB := Aside0.mk n2_
      clear n0_ n1_ n2_
      have hd1_0 := HW.zc BK111.out 0 (.int .i64 0)
      have hd1_1 := HW.zc BK111.out 1 (.bool ((a0 / 9223372036854775808) == 1))
      have hd1_2 := HW.zc BK111.out 2 (.string (⟨#[48]⟩ : ByteArray))
      have hd1_3 := HW.zc BK111.out 3 (.int .i64 (wrap64 ((wrap64 (Go.bits .and .u64 (a0 / 140737488355328) 16383)) + (-6176))))
      have hf1_0 := blk_frozen BK110.out 0
      have hf1_1 := blk_frozen BK110.out 1
      have hf1_2 := blk_frozen BK110.out 2
      have hf1_3 := blk_frozen BK110.out 3
      have he1_0 := HW.zc BK110.out 0 (.int .i64 0)
      have he1_1 := HW.zc BK110.out 1 (.bool false)
      have he1_2 := HW.zc BK110.out 2 (.string (⟨#[]⟩ : ByteArray))
      have he1_3 := HW.zc BK110.out 3 (.int .i64 0)
      go_wp2
      refine bodyPost_ret (results_cell_row rfl _ _ gb110 27 #[.int .i64 0, .bool ((a0 / 9223372036854775808) == 1), .string (⟨#[48]⟩ : ByteArray), .int .i64 (wrap64 ((wrap64 (Go.bits .and .u64 (a0 / 140737488355328) 16383)) + (-6176)))] (0, 0) _ rfl (blk_put (blk_put (blk_put (blk_put BK110.out 0 _ rfl) 1 _ rfl) 2 _ rfl) 3 _ rfl) Tryd.underlying27 rfl (by kernel_rfl)) rfl ?_
      exact ⟨by first | rfl | (simp [errW_none, errW_some] <;> rfl) | (simp [*, errW_none, errW_some] <;> rfl), HW.zb⟩
  rw [if_neg c19] at H
  have c19b0 : ((Go.bits .and .u64 (a0 / 2305843009213693952) 3) == 3) = false := beq_eq_false_iff_ne.mpr c19
  have c19b1 : ((Go.bits .and .u64 (a0 / 2305843009213693952) 3) != 3) = true := bne_iff_ne.mpr c19
  replace H := Option.bind_eq_some_iff.mp H
  obtain ⟨t112, A270, H⟩ := H
  replace H : (some (0, ((a0 / 9223372036854775808) == 1), t112, wrap64 ((wrap64 (Go.bits .and .u64 (a0 / 562949953421312) 16383)) + (-6176)))) = some (r1, r2, r3, r4) := H
  have A27 := Aside0.mk A270
  clear A270
  focus
    simp only [Option.some.injEq, Prod.mk.injEq] at H
    obtain ⟨rfl, rfl, rfl, rfl⟩ := H
    go_enter Tryd.func7, Tryd.ntmps7
    go_wp2_with (first | ((with_reducible refine gate_dst (N := 4) rfl ?_); refine box_event ?hg (N := 4) ?hd (cs := #[.int .i64 0, .bool false, .string (⟨#[]⟩ : ByteArray), .int .i64 0]) (t := 27) ?hr ?_; (case hd => rfl); (case hg => rfl); (case hr => first | (go_simp; done) | (go_simp; rfl)); intro gb110 hg w28 hbox hb; have n0_ := Aside0.mk (below_step HW.zb hb); have n1_ := Aside0.mk (hbox); have n3_ := Aside0.mk ((by rw [hg]; exact (below_size HW.zb) : w.heap.size ≤ gb110)); clear HB; have HB := n0_; have BK110 := n1_; have GE110 := n3_; clear n0_ n1_ n3_; clear hb hbox hg) | ((with_reducible refine gate_dst (N := 5) rfl ?_); refine box_event ?hg (N := 5) ?hd (cs := #[.int .i64 0, .bool false, .string (⟨#[]⟩ : ByteArray), .int .i64 0]) (t := 27) ?hr ?_; (case hd => rfl); (case hg => rfl); (case hr => first | (go_simp; done) | (go_simp; rfl)); intro gb111 hg w29 hbox hb; have n0_ := Aside0.mk (blk_below (g := gb110) (o := .cells #[.int .i64 0, .bool false, .string (⟨#[]⟩ : ByteArray), .int .i64 0] 27 (0, 0)) (HW.zB BK110.out) hb); have n1_ := Aside0.mk (below_step HW.zb hb); have n2_ := Aside0.mk (hbox); have n4_ := Aside0.mk ((by rw [hg]; exact (below_size HW.zb) : w.heap.size ≤ gb111)); have n5_ := Aside0.mk ((by rw [hg]; exact Nat.ne_of_lt (blk_lt (g := gb110) (o := .cells #[.int .i64 0, .bool false, .string (⟨#[]⟩ : ByteArray), .int .i64 0] 27 (0, 0)) (HW.zB BK110.out)) : gb110 ≠ gb111)); have n6_ := Aside0.mk ((by rw [hg]; exact Nat.ne_of_gt (blk_lt (g := gb110) (o := .cells #[.int .i64 0, .bool false, .string (⟨#[]⟩ : ByteArray), .int .i64 0] 27 (0, 0)) (HW.zB BK110.out)) : gb111 ≠ gb110)); clear BK110; clear HB; have BK110 := n0_; have HB := n1_; have BK111 := n2_; have GE111 := n4_; have NB110_111 := n5_; have NB111_110 := n6_; clear n0_ n1_ n2_ n4_ n5_ n6_; clear hb hbox hg; have hnb30 := NB111_110.out; have hnc30 := NB110_111.out; have hcz31_0 := HW.zc BK111.out 0 (.int .i64 0); have hcz31_1 := HW.zc BK111.out 1 (.bool false); have hcz31_2 := HW.zc BK111.out 2 (.string (⟨#[]⟩ : ByteArray)); have hcz31_3 := HW.zc BK111.out 3 (.int .i64 0); have hfz32_0 := blk_frozen BK111.out 0; have hfz32_1 := blk_frozen BK111.out 1; have hfz32_2 := blk_frozen BK111.out 2; have hfz32_3 := blk_frozen BK111.out 3) | ((with_reducible refine gate_callee (f := 13) rfl ?_); refine HW.gz (some 36) rfl rfl Tryd.func13 (by kernel_rfl) rfl #[.int .u64 (Go.bits .and .u64 a0 562949953421311), .int .u64 a1] rfl ?_; (with_reducible refine (spec_decDigits.calls k (Go.bits .and .u64 a0 562949953421311) a1 t112 _ A27.out).mono ?_); rintro e w33 ⟨rfl, hb⟩; refine ⟨_, rfl, ?_⟩; have n0_ := Aside0.mk (blk_below (g := gb110) (o := .cells #[.int .i64 0, .bool false, .string (⟨#[]⟩ : ByteArray), .int .i64 0] 27 (0, 0)) (by (with_reducible repeat (first | refine blk_drewN ?_ _ | refine blk_drew ?_ | refine blk_alloc ?_ _)); refine blk_far ?_ NB110_111.out _; (with_reducible repeat (first | refine blk_drewN ?_ _ | refine blk_drew ?_ | refine blk_alloc ?_ _)); refine blk_far ?_ NB110_111.out _; (with_reducible repeat (first | refine blk_drewN ?_ _ | refine blk_drew ?_ | refine blk_alloc ?_ _)); refine blk_far ?_ NB110_111.out _; (with_reducible repeat (first | refine blk_drewN ?_ _ | refine blk_drew ?_ | refine blk_alloc ?_ _)); refine blk_far ?_ NB110_111.out _; (with_reducible repeat (first | refine blk_drewN ?_ _ | refine blk_drew ?_ | refine blk_alloc ?_ _)); exact BK110.out) hb); have n1_ := Aside0.mk (blk_below (g := gb111) (o := .cells #[.int .i64 0, .bool ((a0 / 9223372036854775808) == 1), .string (⟨#[]⟩ : ByteArray), .int .i64 0] 27 (0, 0)) (by (with_reducible repeat (first | refine blk_drewN ?_ _ | refine blk_drew ?_ | refine blk_alloc ?_ _)); refine blk_put (cs := #[.int .i64 0, .bool ((a0 / 9223372036854775808) == 1), .string (⟨#[]⟩ : ByteArray), .int .i64 0]) ?_ 3 _ rfl; (with_reducible repeat (first | refine blk_drewN ?_ _ | refine blk_drew ?_ | refine blk_alloc ?_ _)); refine blk_put (cs := #[.int .i64 0, .bool ((a0 / 9223372036854775808) == 1), .string (⟨#[]⟩ : ByteArray), .int .i64 0]) ?_ 2 _ rfl; (with_reducible repeat (first | refine blk_drewN ?_ _ | refine blk_drew ?_ | refine blk_alloc ?_ _)); refine blk_put (cs := #[.int .i64 0, .bool false, .string (⟨#[]⟩ : ByteArray), .int .i64 0]) ?_ 1 _ rfl; (with_reducible repeat (first | refine blk_drewN ?_ _ | refine blk_drew ?_ | refine blk_alloc ?_ _)); refine blk_put (cs := #[.int .i64 0, .bool false, .string (⟨#[]⟩ : ByteArray), .int .i64 0]) ?_ 0 _ rfl; (with_reducible repeat (first | refine blk_drewN ?_ _ | refine blk_drew ?_ | refine blk_alloc ?_ _)); exact BK111.out) hb); have n2_ := Aside0.mk (below_step HW.zb hb); clear BK110; clear BK111; clear HB; have BK110 := n0_; have BK111 := n1_; have HB := n2_; clear n0_ n1_ n2_; (try clear hb); (try clear hb2); (try clear hk); (try clear hi); have hcz34_0 := HW.zc BK111.out 0 (.int .i64 0); have hcz34_1 := HW.zc BK111.out 1 (.bool ((a0 / 9223372036854775808) == 1)); have hcz34_2 := HW.zc BK111.out 2 (.string (⟨#[]⟩ : ByteArray)); have hcz34_3 := HW.zc BK111.out 3 (.int .i64 0); have hfz35_0 := blk_frozen BK111.out 0; have hfz35_1 := blk_frozen BK111.out 1; have hfz35_2 := blk_frozen BK111.out 2; have hfz35_3 := blk_frozen BK111.out 3; have hcz36_0 := HW.zc BK110.out 0 (.int .i64 0); have hcz36_1 := HW.zc BK110.out 1 (.bool false); have hcz36_2 := HW.zc BK110.out 2 (.string (⟨#[]⟩ : ByteArray)); have hcz36_3 := HW.zc BK110.out 3 (.int .i64 0); have hfz37_0 := blk_frozen BK110.out 0; have hfz37_1 := blk_frozen BK110.out 1; have hfz37_2 := blk_frozen BK110.out 2; have hfz37_3 := blk_frozen BK110.out 3))
    refine bodyPost_ret (results_cell_row rfl _ _ gb110 27 #[.int .i64 0, .bool ((a0 / 9223372036854775808) == 1), .string t112, .int .i64 (wrap64 ((wrap64 (Go.bits .and .u64 (a0 / 562949953421312) 16383)) + (-6176)))] (0, 0) _ rfl (by (with_reducible repeat (first | refine blk_drewN ?_ _ | refine blk_drew ?_ | refine blk_alloc ?_ _)); refine blk_put (cs := #[.int .i64 0, .bool ((a0 / 9223372036854775808) == 1), .string t112, .int .i64 0]) ?_ 3 _ rfl; (with_reducible repeat (first | refine blk_drewN ?_ _ | refine blk_drew ?_ | refine blk_alloc ?_ _)); refine blk_put (cs := #[.int .i64 0, .bool ((a0 / 9223372036854775808) == 1), .string (⟨#[]⟩ : ByteArray), .int .i64 0]) ?_ 2 _ rfl; (with_reducible repeat (first | refine blk_drewN ?_ _ | refine blk_drew ?_ | refine blk_alloc ?_ _)); refine blk_put (cs := #[.int .i64 0, .bool false, .string (⟨#[]⟩ : ByteArray), .int .i64 0]) ?_ 1 _ rfl; (with_reducible repeat (first | refine blk_drewN ?_ _ | refine blk_drew ?_ | refine blk_alloc ?_ _)); refine blk_put (cs := #[.int .i64 0, .bool false, .string (⟨#[]⟩ : ByteArray), .int .i64 0]) ?_ 0 _ rfl; (with_reducible repeat (first | refine blk_drewN ?_ _ | refine blk_drew ?_ | refine blk_alloc ?_ _)); refine blk_far ?_ NB110_111.out _; (with_reducible repeat (first | refine blk_drewN ?_ _ | refine blk_drew ?_ | refine blk_alloc ?_ _)); refine blk_far ?_ NB110_111.out _; (with_reducible repeat (first | refine blk_drewN ?_ _ | refine blk_drew ?_ | refine blk_alloc ?_ _)); exact BK110.out) Tryd.underlying27 rfl (by kernel_rfl)) rfl ?_
    exact ⟨by first | rfl | (simp [errW_none, errW_some] <;> rfl) | (simp [*, errW_none, errW_some] <;> rfl), HW.zb⟩

end Go.Proofs.YtpbfigeaoefcmaaDoor.PDt
