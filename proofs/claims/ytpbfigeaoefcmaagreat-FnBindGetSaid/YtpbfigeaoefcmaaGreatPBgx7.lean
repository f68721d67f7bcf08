import Derived.Test.YtpbfigeaoefcmaaGreatPBgx0
import Derived.Test.YtpbfigeaoefcmaaGreatPBgx4
import Derived.Test.YtpbfigeaoefcmaaGreatPBgx5
import Derived.Test.YtpbfigeaoefcmaaGreatPBgx6
namespace Go.Proofs.YtpbfigeaoefcmaaGreat.PBg
open Go.RowKit Go.Proofs.YtpbfigeaoefcmaaGreatW.PrintWords Go.Proofs.YtpbfigeaoefcmaaGreatW.PrintLast Go.Proofs.YtpbfigeaoefcmaaGreatW.PrintMore
attribute [local go_sem] max2_int min2_int max_two min_two max_three min_three max_four min_four
set_option linter.unusedVariables false
set_option maxHeartbeats 8000000
set_option maxRecDepth 100000
set_option linter.unusedSimpArgs false
def bson_RawValue_DateTimeOK.f (a0_0 : Int) (l0_1 : List Int) : Option (Int × Bool) := (bson_convertToCoreValue.f a0_0 l0_1).bind fun bt346 => ((bsoncore_Value_DateTimeOK.f bt346.1 bt346.2).bind fun bt350 => (some (bt350.1, bt350.2)))
theorem bson_RawValue_DateTimeOK.calls (a0_0 : Int) (A0_1 : Option Addr) (c0_1 : Nat) (l0_1 : List Int) (r1 : Int) (r2 : Bool) (w : World) (hr0_1 : Kd.C (Kd.int .u8) w A0_1 l0_1.length l0_1) (hc0_1 : l0_1.length ≤ c0_1) (h : bson_RawValue_DateTimeOK.f a0_0 l0_1 = some (r1, r2)) :
    Calls Tryz.prog 26 #[.agg #[.int .u8 a0_0, .slice A0_1 l0_1.length c0_1]] w fun e w' => e = .returned (.tuple #[.int .i64 r1, .bool r2]) ∧ Below w.heap.size w w' := by
  have hu41 := Tryz.underlying41; have HR0_1 := Aside0.mk hr0_1; have HC0_1 := Aside0.mk hc0_1; clear hr0_1 hc0_1; have HB := Aside0.mk (Below.refl w.heap.size w); have H : ((bson_convertToCoreValue.f a0_0 l0_1).bind fun bt346 => ((bsoncore_Value_DateTimeOK.f bt346.1 bt346.2).bind fun bt350 => (some (bt350.1, bt350.2)))) = some (r1, r2) := h; clear h; replace H := Option.bind_eq_some_iff.mp H; obtain ⟨⟨t346, t347⟩, A20, H⟩ := H; replace H : ((bsoncore_Value_DateTimeOK.f t346 t347).bind fun bt350 => (some (bt350.1, bt350.2))) = some (r1, r2) := H; have A2 := Aside0.mk A20; clear A20; replace H := Option.bind_eq_some_iff.mp H; obtain ⟨⟨t350, t351⟩, A30, H⟩ := H; replace H : (some (t350, t351)) = some (r1, r2) := H; have A3 := Aside0.mk A30; clear A30
  as_aux_lemma =>
    simp only [Option.some.injEq, Prod.mk.injEq] at H
    obtain ⟨rfl, rfl⟩ := H
    go_enter Tryz.func26, Tryz.ntmps26
    go_wp2_with (first | ((with_reducible refine gate_dst (N := 1) rfl ?_); refine box_event ?hg (N := 1) ?hd (cs := #[.int .u8 a0_0, .slice A0_1 l0_1.length c0_1]) (t := 41) ?hr ?_; (case hd => rfl); (case hg => rfl); (case hr => first | (go_simp; done) | (go_simp; rfl)); intro gb345 hg w4 hbox hb; have n0_ := Aside0.mk (below_step HW.zb hb); have n1_ := Aside0.mk (hbox); have n2_ := Aside0.mk ((by rw [hg]; exact (below_size HW.zb) : w.heap.size ≤ gb345)); have n3_ := Aside0.mk ((by rw [hg]; exact (below_size HW.zb) : w.heap.size ≤ gb345)); clear HB; have HB := n0_; have BK345 := n1_; have GW345 := n2_; have GE345 := n3_; clear n0_ n1_ n2_ n3_; clear hb hbox hg; obtain ⟨hcz5_0, hcz5_1⟩ := HW.k2 BK345.out) | ((with_reducible refine gate_callee (f := 41) rfl ?_); refine HW.gz (some 5) rfl rfl Tryz.func41 (by kernel_rfl) rfl #[.agg #[.int .u8 a0_0, .slice A0_1 l0_1.length c0_1]] rfl ?_; (with_reducible refine (bson_convertToCoreValue.calls a0_0 (fun k_ => k_ < w.heap.size) _ _ l0_1 t346 t347 _ ?side1 A2.out).mono ?_); (case side1 => exact Kd.V_mk HC0_1.out (Kd.F_below (Kd.C_F (Kd.heap_int .u8) HR0_1.out) HW.zb)); rintro e w6 ⟨v348, rfl, ho0, hb⟩; refine ⟨_, rfl, ?_⟩; have n0_ := Aside0.mk (Kd.V_lower (Kd.V_mono (ok' := fun k_ => k_ ≠ gb345) ho0 (fun k_ hk_ => Or.elim hk_ (fun hs_ => fun e_ => Nat.not_le.2 hs_ (by rw [e_]; exact GW345.out)) (fun hn_ => (Kd.freshB (g := gb345) (o := .cells #[.int .u8 a0_0, .slice A0_1 l0_1.length c0_1] 41 (0, 0)) (HW.zB BK345.out) k_ hn_)))) (below_size HW.zb)); have n2_ := Aside0.mk (below_step HW.zb hb); clear HB; have HO349 := n0_; have HB := n2_; clear n0_ n2_; (try clear hb); (try clear ho0); obtain ⟨Ao7, co7, eo7⟩ := Kd.V_slice HO349.out; subst eo7) | ((with_reducible refine gate_callee (f := 49) rfl ?_); refine HW.gz (some 6) rfl rfl Tryz.func49 (by kernel_rfl) rfl #[.agg #[.int .u8 t346, .slice Ao7 t347.length co7]] rfl ?_; (with_reducible refine (bsoncore_Value_DateTimeOK.calls t346 _ _ t347 t350 t351 _ ?side1 ?side2 A3.out).mono ?_); (case side1 => repeat (first | exact (Kd.V_reads' HO349.out).2.2 | (with_reducible refine Kd.C_alloc ?_ _) | (with_reducible refine Kd.C_drewN ?_ _) | (with_reducible refine Kd.C_drew ?_))); (case side2 => exact (Kd.V_reads' HO349.out).2.1); rintro e w8 ⟨rfl, hb⟩; refine ⟨_, rfl, ?_⟩; have n2_ := Aside0.mk (below_step HW.zb hb); clear HB; have HB := n2_; clear n2_; (try clear hb)))
    go_ret2
    exact ⟨rfl, HW.zb⟩
def bytes_IndexByte.f (l0 : List Int) (a1 : Int) : Option (Int) := some (Lib.indexByte (Lib.bytesOf l0) a1.toNat.toUInt8)
theorem bytes_IndexByte.calls (A0 : Option Addr) (c0 : Nat) (l0 : List Int) (a1 : Int) (r : Int) (w : World) (hr0 : Kd.C (Kd.int .u8) w A0 l0.length l0) (_hc0 : l0.length ≤ c0) (h : bytes_IndexByte.f l0 a1 = some r) :
    Calls Tryz.prog 97 #[.slice A0 l0.length c0, .int .u8 a1] w fun e w' => e = .returned (.int .i64 r) ∧ Drawn0 w w' := by
  obtain rfl := Option.some.inj h; clear h; have HR := Kd.reads_of_C (enc := Value.int .u8) (d := (0 : Int)) (h1 := fun _ => rfl) hr0; clear hr0
  cases A0 with
  | none =>
    have hl : l0 = [] := by
      rcases Nat.eq_zero_or_pos l0.length with hz | hz
      · exact List.eq_nil_of_length_eq_zero hz
      obtain ⟨_, he, _⟩ := HR.2.2 hz
      cases he
    subst hl
    go_enter Tryz.func97, Tryz.ntmps97
    go_wp2
    rw [run_callFunc_extern Tryz.func98 (by kernel_rfl) (by kernel_rfl) (by kernel_rfl) (e := Extern.BytealgIndexByte.indexByte) (by kernel_rfl), Lib.run_indexByteNil w]
    simp only [Result.andThen]
    rw [Oper.upon_value]
    go_wp2
    go_ret
    exact ⟨rfl, ⟨0, rfl⟩⟩
  | some a =>
    have hc : ∀ i, i < l0.length → w.cell? (a.add i) = some (.int .u8 (l0.getD i 0)) := by
      intro i hi
      obtain ⟨ad, he, hc⟩ := HR.2.2 (by omega)
      cases he
      exact hc i hi
    clear HR
    go_enter Tryz.func97, Tryz.ntmps97
    go_wp2
    rw [run_callFunc_extern Tryz.func98 (by kernel_rfl) (by kernel_rfl) (by kernel_rfl) (e := Extern.BytealgIndexByte.indexByte) (by kernel_rfl), Lib.run_indexByteAt w a l0.length c0 l0 rfl hc a1]
    simp only [Result.andThen]
    rw [Oper.upon_value]
    go_wp2
    go_ret
    exact ⟨rfl, ⟨0, rfl⟩⟩
def binaryutil_ReadCStringBytes.f (l0 : List Int) : Option (List Int × List Int × Bool) := (bytes_IndexByte.f l0 0).bind fun t352 => (if t352 < 0 then (some (([] : List Int), l0, false)) else (if 0 ≤ t352 then (if t352 ≤ (l0.length : Int) then (if 0 ≤ (wrap64 (t352 + 1)) then (if (wrap64 (t352 + 1)) ≤ (l0.length : Int) then (some ((l0.take (t352 : Int).toNat), (l0.drop ((wrap64 (t352 + 1)) : Int).toNat), true)) else (none)) else (none)) else (none)) else (none)))
theorem binaryutil_ReadCStringBytes.calls (P0_ : Nat → Prop) (A0 : Option Addr) (c0 : Nat) (l0 : List Int) (r1 : List Int) (r2 : List Int) (r3 : Bool) (w : World) (hs0 : Kd.V (Kd.int .u8) 5 w w.heap.size (fun k_ => P0_ k_) (.slice A0 l0.length c0) l0) (h : binaryutil_ReadCStringBytes.f l0 = some (r1, r2, r3)) :
    Calls Tryz.prog 95 #[.slice A0 l0.length c0] w fun e w' => ∃ v0_ v1_ : Value, e = .returned (.tuple #[v0_, v1_, .bool r3]) ∧ Kd.V (Kd.int .u8) 5 w' w.heap.size (fun k_ => (P0_ k_ ∨ w.heap.size ≤ k_)) v0_ r1 ∧ Kd.V (Kd.int .u8) 5 w' w.heap.size (fun k_ => (P0_ k_ ∨ w.heap.size ≤ k_)) v1_ r2 ∧ Below w.heap.size w w' := by
  have HO0 := Aside0.mk (show Kd.V (Kd.int .u8) 5 w w.heap.size (fun k_ => (P0_ k_ ∨ w.heap.size ≤ k_)) (.slice A0 l0.length c0) l0 from Kd.V_mono hs0 (fun k_ hk => .inl hk)); have HB := Aside0.mk (Below.refl w.heap.size w); have H : ((bytes_IndexByte.f l0 0).bind fun t352 => (if t352 < 0 then (some (([] : List Int), l0, false)) else (if 0 ≤ t352 then (if t352 ≤ (l0.length : Int) then (if 0 ≤ (wrap64 (t352 + 1)) then (if (wrap64 (t352 + 1)) ≤ (l0.length : Int) then (some ((l0.take (t352 : Int).toNat), (l0.drop ((wrap64 (t352 + 1)) : Int).toNat), true)) else (none)) else (none)) else (none)) else (none)))) = some (r1, r2, r3) := h; clear h; replace H := Option.bind_eq_some_iff.mp H; obtain ⟨t352, A20, H⟩ := H; replace H : (if t352 < 0 then (some (([] : List Int), l0, false)) else (if 0 ≤ t352 then (if t352 ≤ (l0.length : Int) then (if 0 ≤ (wrap64 (t352 + 1)) then (if (wrap64 (t352 + 1)) ≤ (l0.length : Int) then (some ((l0.take (t352 : Int).toNat), (l0.drop ((wrap64 (t352 + 1)) : Int).toNat), true)) else (none)) else (none)) else (none)) else (none))) = some (r1, r2, r3) := H; have A2 := Aside0.mk A20; clear A20
  by_cases c3 : t352 < 0
  · rw [if_pos c3] at H
    have c3b0 : decide (t352 < 0) = true := decide_eq_true c3; clear c3
    as_aux_lemma =>
      simp only [Option.some.injEq, Prod.mk.injEq] at H
      obtain ⟨rfl, rfl, rfl⟩ := H
      go_enter Tryz.func95, Tryz.ntmps95
      go_wp2_with (first | (go_at_call 97; (with_reducible refine (bytes_IndexByte.calls _ _ l0 0 t352 _ ?side1 ?side2 A2.out).mono ?_); (case side1 => repeat (first | exact (Kd.V_reads' HO0.out).2.2 | (with_reducible refine Kd.C_alloc ?_ _) | (with_reducible refine Kd.C_drewN ?_ _) | (with_reducible refine Kd.C_drew ?_))); (case side2 => exact (Kd.V_reads' HO0.out).2.1); rintro e w' ⟨rfl, ⟨nd, rfl⟩⟩; (try first | exact ⟨rfl, _, World.drewN_drewN _ _ _⟩ | exact ⟨rfl, _, Eq.trans (World.drewN_drewN _ _ _) (congrArg (World.drewN _) (Nat.add_assoc _ _ _))⟩)))
      repeat (go_quiet (fail); try go_wp2)
      go_ret3
      exact ⟨_, _, rfl, Kd.V_nil _ _ _ _ _, HW.zV HO0.out, HW.zb⟩
  rw [if_neg c3] at H; have c3b0 : decide (t352 < 0) = false := decide_eq_false c3; clear c3
  by_cases c4 : 0 ≤ t352
  rotate_left
  · rw [if_neg c4] at H
    exact absurd H (by simp)
  rw [if_pos c4] at H; have c4b0 := eq_true c4; have c4b1 : decide (0 ≤ t352) = true := decide_eq_true c4; clear c4
  by_cases c5 : t352 ≤ (l0.length : Int)
  rotate_left
  · rw [if_neg c5] at H
    exact absurd H (by simp)
  rw [if_pos c5] at H; have c5b0 := eq_true c5; have c5b1 : decide (t352 ≤ (l0.length : Int)) = true := decide_eq_true c5; clear c5; obtain ⟨y353, hy353⟩ : ∃ y_ : List Int, y_ = (l0.take (t352 : Int).toNat) := ⟨_, rfl⟩
  replace H : (if 0 ≤ (wrap64 (t352 + 1)) then (if (wrap64 (t352 + 1)) ≤ (l0.length : Int) then (some (y353, (l0.drop ((wrap64 (t352 + 1)) : Int).toNat), true)) else (none)) else (none)) = some (r1, r2, r3) := by (try rw [hy353]); exact HW.rp
  have Ny353 := Aside0.mk hy353; clear hy353; obtain ⟨ji6, hji6⟩ : ∃ j_ : Int, (wrap64 (t352 + 1)) = j_ := ⟨_, rfl⟩
  replace H : (if 0 ≤ (ji6) then (if (ji6) ≤ (l0.length : Int) then (some (y353, (l0.drop ((ji6) : Int).toNat), true)) else (none)) else (none)) = some (r1, r2, r3) := by first | (rw [hji6] at H; exact H) | (simp only [hji6] at H ⊢; exact H)
  (try rw [hji6] at A2)
  have hji6w : (IntKind.i64.wrap (t352 + 1)) = ji6 := (i64_w _).trans hji6
  by_cases c7 : 0 ≤ (ji6)
  rotate_left
  · rw [if_neg c7] at H
    exact absurd H (by simp)
  rw [if_pos c7] at H; have c7b0 := eq_true c7; have c7b1 : decide (0 ≤ (ji6)) = true := decide_eq_true c7; clear c7
  by_cases c8 : (ji6) ≤ (l0.length : Int)
  rotate_left
  · rw [if_neg c8] at H
    exact absurd H (by simp)
  rw [if_pos c8] at H; have c8b0 := eq_true c8; have c8b1 : decide ((ji6) ≤ (l0.length : Int)) = true := decide_eq_true c8; clear c8; obtain ⟨y358, hy358⟩ : ∃ y_ : List Int, y_ = (l0.drop ((ji6) : Int).toNat) := ⟨_, rfl⟩
  replace H : (some (y353, y358, true)) = some (r1, r2, r3) := by (try rw [hy358]); exact HW.rp
  have Ny358 := Aside0.mk hy358; clear hy358
  as_aux_lemma =>
    simp only [Option.some.injEq, Prod.mk.injEq] at H
    obtain ⟨rfl, rfl, rfl⟩ := H
    go_enter Tryz.func95, Tryz.ntmps95
    go_wp2_with (first | (go_at_call 97; (with_reducible refine (bytes_IndexByte.calls _ _ l0 0 t352 _ ?side1 ?side2 A2.out).mono ?_); (case side1 => repeat (first | exact (Kd.V_reads' HO0.out).2.2 | (with_reducible refine Kd.C_alloc ?_ _) | (with_reducible refine Kd.C_drewN ?_ _) | (with_reducible refine Kd.C_drew ?_))); (case side2 => exact (Kd.V_reads' HO0.out).2.1); rintro e w' ⟨rfl, ⟨nd, rfl⟩⟩; (try first | exact ⟨rfl, _, World.drewN_drewN _ _ _⟩ | exact ⟨rfl, _, Eq.trans (World.drewN_drewN _ _ _) (congrArg (World.drewN _) (Nat.add_assoc _ _ _))⟩); have q9 : (t352 : Int) ≤ ((l0.length : Int) : Int) := HW.od; obtain ⟨i09, hi09, _, hsz9, _⟩ := info_parts info5; have hroom9 : l0.length ≤ c0 := (Kd.V_reads' HO0.out).2.1; have hC9 : Kd.F (Kd.int .u8) _ _ A0 l0.length l0 := (Kd.V_at (base := w.heap.size) HO0.out).2.2; have hcut9 := cut_to (P := Tryz.prog) 23 5 .i64 Tryz.underlying23 hi09 A0 l0.length c0 t352 (HW.od) q9 hroom9; have hr9 := Kd.F_take (m := (t352 : Int).toNat) hC9 (by omega); have hy9 : y353.length = (t352 : Int).toNat := (by rw [Ny353.out, List.length_take]; omega); rw [← Ny353.out] at hr9; rw [← hy9] at hcut9; have HO357 := Aside0.mk (show Kd.V (Kd.int .u8) 5 _ w.heap.size _ (.slice A0 y353.length c0) y353 from Kd.V_mk (by omega) hr9); have HC357 := Aside0.mk (show y353.length ≤ c0 from by omega); clear hr9 hC9 hroom9 hi09 hsz9; have KY9 := Aside0.mk hy9; clear hy9; replace q9 := eq_true q9; have q10 : ((ji6) : Int) ≤ ((l0.length : Int) : Int) := HW.od; obtain ⟨i010, hi010, _, hsz10, _⟩ := info_parts info5; have hroom10 : l0.length ≤ c0 := (Kd.V_reads' HO0.out).2.1; have hC10 : Kd.F (Kd.int .u8) _ _ A0 l0.length l0 := (Kd.V_at (base := w.heap.size) HO0.out).2.2; have q010 : (0 : Int) ≤ ((ji6) : Int) := HW.od; have hcut10 := cut_from (P := Tryz.prog) 23 5 .i64 Tryz.underlying23 hi010 1 hsz10 A0 l0.length c0 (ji6) q010 q10; have hr10 := Kd.F_cut (m := ((ji6) : Int).toNat) (c := c0) hC10 (by omega) hroom10; obtain ⟨A10, hA10⟩ : ∃ A1, A1 = (if c0 = ((ji6) : Int).toNat then A0 else (A0 : Option Addr).map (·.add (((ji6) : Int).toNat * 1))) := ⟨_, rfl⟩; obtain ⟨c10, hc10⟩ : ∃ c1, c1 = c0 - ((ji6) : Int).toNat := ⟨_, rfl⟩; have hy10 : y358.length = l0.length - ((ji6) : Int).toNat := (by rw [Ny358.out, List.length_drop] <;> omega); rw [show (l0).drop ((ji6) : Int).toNat = y358 from Ny358.out.symm] at hr10; replace hr10 : Kd.F (Kd.int .u8) _ _ A10 y358.length y358 := (by rw [hA10]; exact hr10); rw [← hy10, ← hA10, ← hc10] at hcut10; have HO362 := Aside0.mk (show Kd.V (Kd.int .u8) 5 _ w.heap.size _ (.slice A10 y358.length c10) y358 from Kd.V_mk (by rw [hy10, hc10]; exact Nat.sub_le_sub_right hroom10 _) hr10); have HC362 := Aside0.mk (show y358.length ≤ c10 from by rw [hy10, hc10]; exact Nat.sub_le_sub_right hroom10 _); clear hr10 hC10 hroom10 hi010 hsz10 hc10; have KY10 := Aside0.mk hy10; have KA10 := Aside0.mk hA10; clear hy10 hA10; replace q10 := eq_true q10))
    repeat (go_quiet (fail); try go_wp2)
    go_ret3
    exact ⟨_, _, by first | rfl | (simp [errW_none, errW_some] <;> rfl) | (simp only [← hji6]; first | rfl | (simp [errW_none, errW_some] <;> rfl)) | (simp [*, errW_none, errW_some] <;> rfl), HW.zV HO357.out, HW.zV HO362.out, HW.zb⟩
def binaryutil_ReadCString.f (l0 : List Int) : Option (ByteArray × List Int × Bool) := (binaryutil_ReadCStringBytes.f l0).bind fun bt363 => (if bt363.2.2 = true then (some (strOfNums bt363.1, bt363.2.1, true)) else (some ((⟨#[]⟩ : ByteArray), l0, false)))
theorem binaryutil_ReadCString.calls (P0_ : Nat → Prop) (A0 : Option Addr) (c0 : Nat) (l0 : List Int) (r1 : ByteArray) (r2 : List Int) (r3 : Bool) (w : World) (hs0 : Kd.V (Kd.int .u8) 5 w w.heap.size (fun k_ => P0_ k_) (.slice A0 l0.length c0) l0) (h : binaryutil_ReadCString.f l0 = some (r1, r2, r3)) :
    Calls Tryz.prog 91 #[.slice A0 l0.length c0] w fun e w' => ∃ v1_ : Value, e = .returned (.tuple #[.string r1, v1_, .bool r3]) ∧ Kd.V (Kd.int .u8) 5 w' w.heap.size (fun k_ => (P0_ k_ ∨ w.heap.size ≤ k_)) v1_ r2 ∧ Below w.heap.size w w' := by
  have HO0 := Aside0.mk (show Kd.V (Kd.int .u8) 5 w w.heap.size (fun k_ => (P0_ k_ ∨ w.heap.size ≤ k_)) (.slice A0 l0.length c0) l0 from Kd.V_mono hs0 (fun k_ hk => .inl hk)); have HB := Aside0.mk (Below.refl w.heap.size w); have H : ((binaryutil_ReadCStringBytes.f l0).bind fun bt363 => (if bt363.2.2 = true then (some (strOfNums bt363.1, bt363.2.1, true)) else (some ((⟨#[]⟩ : ByteArray), l0, false)))) = some (r1, r2, r3) := h; clear h; replace H := Option.bind_eq_some_iff.mp H; obtain ⟨⟨t363, t366, t369⟩, A20, H⟩ := H; replace H : (if t369 = true then (some (strOfNums t363, t366, true)) else (some ((⟨#[]⟩ : ByteArray), l0, false))) = some (r1, r2, r3) := H; have A2 := Aside0.mk A20; clear A20
  by_cases c3 : t369 = true
  · subst c3
    have H1 : (some (strOfNums t363, t366, true)) = some (r1, r2, r3) := by rw [if_pos rfl] at H; exact H
    clear H; have H := H1; clear H1
    as_aux_lemma =>
      simp only [Option.some.injEq, Prod.mk.injEq] at H
      obtain ⟨rfl, rfl, rfl⟩ := H
      go_enter Tryz.func91, Tryz.ntmps91
      go_wp2_with (first | ((with_reducible refine gate_callee (f := 95) rfl ?_); refine HW.gz (some 10) rfl rfl Tryz.func95 (by kernel_rfl) rfl #[.slice A0 l0.length c0] rfl ?_; (with_reducible refine (binaryutil_ReadCStringBytes.calls (fun k_ => (P0_ k_ ∨ w.heap.size ≤ k_)) _ _ l0 t363 t366 true _ ?side1 A2.out).mono ?_); (case side1 => exact HO0.out); rintro e w4 ⟨v364, v367, rfl, ho0, ho1, hb⟩; refine ⟨_, rfl, ?_⟩; replace HO0 := Aside0.mk (Kd.V_below (HW.zV HO0.out) hb); have HO365 := Aside0.mk (Kd.V_lower (Kd.V_mono (ok' := fun k_ => (P0_ k_ ∨ w.heap.size ≤ k_)) ho0 (fun k_ hk_ => Or.elim hk_ (fun hs_ => hs_) (fun hn_ => (.inr (Nat.le_trans (below_size HW.zb) hn_))))) (below_size HW.zb)); have HO368 := Aside0.mk (Kd.V_lower (Kd.V_mono (ok' := fun k_ => (P0_ k_ ∨ w.heap.size ≤ k_)) ho1 (fun k_ hk_ => Or.elim hk_ (fun hs_ => hs_) (fun hn_ => (.inr (Nat.le_trans (below_size HW.zb) hn_))))) (below_size HW.zb)); replace HB := Aside0.mk (below_step HW.zb hb); (try clear hb); (try clear ho0); (try clear ho1); have hcv5 := HW.V_string (P := Tryz.prog) Tryz.underlying23 Tryz.underlying5 Tryz.underlying9 (HO365.out)))
      go_ret3
      exact ⟨_, rfl, HW.zV HO368.out, HW.zb⟩
  replace c3 := Bool.eq_false_iff.mpr c3; subst c3
  have H1 : (some ((⟨#[]⟩ : ByteArray), l0, false)) = some (r1, r2, r3) := by rw [if_neg (show ¬ (false = true) by decide)] at H; exact H
  clear H; have H := H1; clear H1
  as_aux_lemma =>
    simp only [Option.some.injEq, Prod.mk.injEq] at H
    obtain ⟨rfl, rfl, rfl⟩ := H
    go_enter Tryz.func91, Tryz.ntmps91
    go_wp2_with (first | ((with_reducible refine gate_callee (f := 95) rfl ?_); refine HW.gz (some 10) rfl rfl Tryz.func95 (by kernel_rfl) rfl #[.slice A0 l0.length c0] rfl ?_; (with_reducible refine (binaryutil_ReadCStringBytes.calls (fun k_ => (P0_ k_ ∨ w.heap.size ≤ k_)) _ _ l0 t363 t366 false _ ?side1 A2.out).mono ?_); (case side1 => exact HO0.out); rintro e w6 ⟨v364, v367, rfl, ho0, ho1, hb⟩; refine ⟨_, rfl, ?_⟩; replace HO0 := Aside0.mk (Kd.V_below (HW.zV HO0.out) hb); replace HB := Aside0.mk (below_step HW.zb hb); (try clear hb); (try clear ho0); (try clear ho1)))
    go_ret3
    exact ⟨_, rfl, HW.zV HO0.out, HW.zb⟩
def bsoncore_ReadRegex.f (l0 : List Int) : Option (ByteArray × ByteArray × List Int × Bool) := (binaryutil_ReadCString.f l0).bind fun bt370 => (if bt370.2.2 = true then ((binaryutil_ReadCString.f bt370.2.1).bind fun bt375 => (if bt375.2.2 = true then (some (bt370.1, bt375.1, bt375.2.1, true)) else (some ((⟨#[]⟩ : ByteArray), (⟨#[]⟩ : ByteArray), l0, false)))) else (some ((⟨#[]⟩ : ByteArray), (⟨#[]⟩ : ByteArray), l0, false)))
theorem bsoncore_ReadRegex.calls (P0_ : Nat → Prop) (A0 : Option Addr) (c0 : Nat) (l0 : List Int) (r1 : ByteArray) (r2 : ByteArray) (r3 : List Int) (r4 : Bool) (w : World) (hs0 : Kd.V (Kd.int .u8) 5 w w.heap.size (fun k_ => P0_ k_) (.slice A0 l0.length c0) l0) (h : bsoncore_ReadRegex.f l0 = some (r1, r2, r3, r4)) :
    Calls Tryz.prog 75 #[.slice A0 l0.length c0] w fun e w' => ∃ v2_ : Value, e = .returned (.tuple #[.string r1, .string r2, v2_, .bool r4]) ∧ Kd.V (Kd.int .u8) 5 w' w.heap.size (fun k_ => (P0_ k_ ∨ w.heap.size ≤ k_)) v2_ r3 ∧ Below w.heap.size w w' := by
  have HO0 := Aside0.mk (show Kd.V (Kd.int .u8) 5 w w.heap.size (fun k_ => (P0_ k_ ∨ w.heap.size ≤ k_)) (.slice A0 l0.length c0) l0 from Kd.V_mono hs0 (fun k_ hk => .inl hk)); have HB := Aside0.mk (Below.refl w.heap.size w); have H : ((binaryutil_ReadCString.f l0).bind fun bt370 => (if bt370.2.2 = true then ((binaryutil_ReadCString.f bt370.2.1).bind fun bt375 => (if bt375.2.2 = true then (some (bt370.1, bt375.1, bt375.2.1, true)) else (some ((⟨#[]⟩ : ByteArray), (⟨#[]⟩ : ByteArray), l0, false)))) else (some ((⟨#[]⟩ : ByteArray), (⟨#[]⟩ : ByteArray), l0, false)))) = some (r1, r2, r3, r4) := h; clear h; replace H := Option.bind_eq_some_iff.mp H; obtain ⟨⟨t370, t371, t374⟩, A20, H⟩ := H; replace H : (if t374 = true then ((binaryutil_ReadCString.f t371).bind fun bt375 => (if bt375.2.2 = true then (some (t370, bt375.1, bt375.2.1, true)) else (some ((⟨#[]⟩ : ByteArray), (⟨#[]⟩ : ByteArray), l0, false)))) else (some ((⟨#[]⟩ : ByteArray), (⟨#[]⟩ : ByteArray), l0, false))) = some (r1, r2, r3, r4) := H; have A2 := Aside0.mk A20; clear A20
  by_cases c3 : t374 = true
  rotate_left
  · replace c3 := Bool.eq_false_iff.mpr c3
    subst c3
    have H1 : (some ((⟨#[]⟩ : ByteArray), (⟨#[]⟩ : ByteArray), l0, false)) = some (r1, r2, r3, r4) := by rw [if_neg (show ¬ (false = true) by decide)] at H; exact H
    clear H; have H := H1; clear H1
    as_aux_lemma =>
      simp only [Option.some.injEq, Prod.mk.injEq] at H
      obtain ⟨rfl, rfl, rfl, rfl⟩ := H
      go_enter Tryz.func75, Tryz.ntmps75
      go_wp2_with (first | ((with_reducible refine gate_callee (f := 91) rfl ?_); refine HW.gz (some 8) rfl rfl Tryz.func91 (by kernel_rfl) rfl #[.slice A0 l0.length c0] rfl ?_; (with_reducible refine (binaryutil_ReadCString.calls (fun k_ => (P0_ k_ ∨ w.heap.size ≤ k_)) _ _ l0 t370 t371 false _ ?side1 A2.out).mono ?_); (case side1 => exact HO0.out); rintro e w12 ⟨v372, rfl, ho0, hb⟩; refine ⟨_, rfl, ?_⟩; replace HO0 := Aside0.mk (Kd.V_below (HW.zV HO0.out) hb); have HO373 := Aside0.mk (Kd.V_lower (Kd.V_mono (ok' := fun k_ => (P0_ k_ ∨ w.heap.size ≤ k_)) ho0 (fun k_ hk_ => Or.elim hk_ (fun hs_ => hs_) (fun hn_ => (.inr (Nat.le_trans (below_size HW.zb) hn_))))) (below_size HW.zb)); replace HB := Aside0.mk (below_step HW.zb hb); (try clear hb); (try clear ho0)))
      refine bodyPost_ret (results_list (rs := [.tmp 2, .tmp 3, .tmp 4, .tmp 5]) rfl (by simp) (.tmp (.tmp (.tmp (.tmp .nil))))) rfl ?_
      exact ⟨_, rfl, HW.zV HO0.out, HW.zb⟩
  subst c3
  have H1 : ((binaryutil_ReadCString.f t371).bind fun bt375 => (if bt375.2.2 = true then (some (t370, bt375.1, bt375.2.1, true)) else (some ((⟨#[]⟩ : ByteArray), (⟨#[]⟩ : ByteArray), l0, false)))) = some (r1, r2, r3, r4) := by rw [if_pos rfl] at H; exact H
  clear H; have H := H1; clear H1; replace H := Option.bind_eq_some_iff.mp H; obtain ⟨⟨t375, t376, t379⟩, A40, H⟩ := H; replace H : (if t379 = true then (some (t370, t375, t376, true)) else (some ((⟨#[]⟩ : ByteArray), (⟨#[]⟩ : ByteArray), l0, false))) = some (r1, r2, r3, r4) := H; have A4 := Aside0.mk A40; clear A40
  by_cases c5 : t379 = true
  · subst c5
    have H1 : (some (t370, t375, t376, true)) = some (r1, r2, r3, r4) := by rw [if_pos rfl] at H; exact H
    clear H; have H := H1; clear H1
    as_aux_lemma =>
      simp only [Option.some.injEq, Prod.mk.injEq] at H
      obtain ⟨rfl, rfl, rfl, rfl⟩ := H
      go_enter Tryz.func75, Tryz.ntmps75
      go_wp2_with (first | ((with_reducible refine gate_callee (f := 91) rfl ?_); refine HW.gz (some 8) rfl rfl Tryz.func91 (by kernel_rfl) rfl #[.slice A0 l0.length c0] rfl ?_; (with_reducible refine (binaryutil_ReadCString.calls (fun k_ => (P0_ k_ ∨ w.heap.size ≤ k_)) _ _ l0 t370 t371 true _ ?side1 A2.out).mono ?_); (case side1 => exact HO0.out); rintro e w6 ⟨v372, rfl, ho0, hb⟩; refine ⟨_, rfl, ?_⟩; replace HO0 := Aside0.mk (Kd.V_below (HW.zV HO0.out) hb); have HO373 := Aside0.mk (Kd.V_lower (Kd.V_mono (ok' := fun k_ => (P0_ k_ ∨ w.heap.size ≤ k_)) ho0 (fun k_ hk_ => Or.elim hk_ (fun hs_ => hs_) (fun hn_ => (.inr (Nat.le_trans (below_size HW.zb) hn_))))) (below_size HW.zb)); replace HB := Aside0.mk (below_step HW.zb hb); (try clear hb); (try clear ho0); obtain ⟨Ao7, co7, eo7⟩ := Kd.V_slice HO373.out; subst eo7) | ((with_reducible refine gate_callee (f := 91) rfl ?_); refine HW.gz (some 17) rfl rfl Tryz.func91 (by kernel_rfl) rfl #[.slice Ao7 t371.length co7] rfl ?_; (with_reducible refine (binaryutil_ReadCString.calls (fun k_ => (P0_ k_ ∨ w.heap.size ≤ k_)) _ _ t371 t375 t376 true _ ?side1 A4.out).mono ?_); (case side1 => exact HO373.out); rintro e w8 ⟨v377, rfl, ho0, hb⟩; refine ⟨_, rfl, ?_⟩; replace HO0 := Aside0.mk (Kd.V_below (HW.zV HO0.out) hb); replace HO373 := Aside0.mk (Kd.V_below (HW.zV HO373.out) hb); have HO378 := Aside0.mk (Kd.V_lower (Kd.V_mono (ok' := fun k_ => (P0_ k_ ∨ w.heap.size ≤ k_)) ho0 (fun k_ hk_ => Or.elim hk_ (fun hs_ => hs_) (fun hn_ => (.inr (Nat.le_trans (below_size HW.zb) hn_))))) (below_size HW.zb)); replace HB := Aside0.mk (below_step HW.zb hb); (try clear hb); (try clear ho0)))
      refine bodyPost_ret (results_list (rs := [.tmp 2, .tmp 3, .tmp 4, .tmp 5]) rfl (by simp) (.tmp (.tmp (.tmp (.tmp .nil))))) rfl ?_
      exact ⟨_, rfl, HW.zV HO378.out, HW.zb⟩
  replace c5 := Bool.eq_false_iff.mpr c5; subst c5
  have H1 : (some ((⟨#[]⟩ : ByteArray), (⟨#[]⟩ : ByteArray), l0, false)) = some (r1, r2, r3, r4) := by rw [if_neg (show ¬ (false = true) by decide)] at H; exact H
  clear H; have H := H1; clear H1
  as_aux_lemma =>
    simp only [Option.some.injEq, Prod.mk.injEq] at H
    obtain ⟨rfl, rfl, rfl, rfl⟩ := H
    go_enter Tryz.func75, Tryz.ntmps75
    go_wp2_with (first | ((with_reducible refine gate_callee (f := 91) rfl ?_); refine HW.gz (some 8) rfl rfl Tryz.func91 (by kernel_rfl) rfl #[.slice A0 l0.length c0] rfl ?_; (with_reducible refine (binaryutil_ReadCString.calls (fun k_ => (P0_ k_ ∨ w.heap.size ≤ k_)) _ _ l0 t370 t371 true _ ?side1 A2.out).mono ?_); (case side1 => exact HO0.out); rintro e w9 ⟨v372, rfl, ho0, hb⟩; refine ⟨_, rfl, ?_⟩; replace HO0 := Aside0.mk (Kd.V_below (HW.zV HO0.out) hb); have HO373 := Aside0.mk (Kd.V_lower (Kd.V_mono (ok' := fun k_ => (P0_ k_ ∨ w.heap.size ≤ k_)) ho0 (fun k_ hk_ => Or.elim hk_ (fun hs_ => hs_) (fun hn_ => (.inr (Nat.le_trans (below_size HW.zb) hn_))))) (below_size HW.zb)); replace HB := Aside0.mk (below_step HW.zb hb); (try clear hb); (try clear ho0); obtain ⟨Ao10, co10, eo10⟩ := Kd.V_slice HO373.out; subst eo10) | ((with_reducible refine gate_callee (f := 91) rfl ?_); refine HW.gz (some 17) rfl rfl Tryz.func91 (by kernel_rfl) rfl #[.slice Ao10 t371.length co10] rfl ?_; (with_reducible refine (binaryutil_ReadCString.calls (fun k_ => (P0_ k_ ∨ w.heap.size ≤ k_)) _ _ t371 t375 t376 false _ ?side1 A4.out).mono ?_); (case side1 => exact HO373.out); rintro e w11 ⟨v377, rfl, ho0, hb⟩; refine ⟨_, rfl, ?_⟩; replace HO0 := Aside0.mk (Kd.V_below (HW.zV HO0.out) hb); replace HB := Aside0.mk (below_step HW.zb hb); (try clear hb); (try clear ho0)))
    refine bodyPost_ret (results_list (rs := [.tmp 2, .tmp 3, .tmp 4, .tmp 5]) rfl (by simp) (.tmp (.tmp (.tmp (.tmp .nil))))) rfl ?_
    exact ⟨_, rfl, HW.zV HO0.out, HW.zb⟩
def bsoncore_Value_RegexOK.f (a0_0 : Int) (l0_1 : List Int) : Option (ByteArray × ByteArray × Bool) := if a0_0 = 11 then ((bsoncore_ReadRegex.f l0_1).bind fun bt381 => (if bt381.2.2.2 = true then (some (bt381.1, bt381.2.1, true)) else (none))) else (some ((⟨#[]⟩ : ByteArray), (⟨#[]⟩ : ByteArray), false))
theorem bsoncore_Value_RegexOK.calls (a0_0 : Int) (A0_1 : Option Addr) (c0_1 : Nat) (l0_1 : List Int) (r1 : ByteArray) (r2 : ByteArray) (r3 : Bool) (w : World) (hr0_1 : Kd.C (Kd.int .u8) w A0_1 l0_1.length l0_1) (hc0_1 : l0_1.length ≤ c0_1) (h : bsoncore_Value_RegexOK.f a0_0 l0_1 = some (r1, r2, r3)) :
    Calls Tryz.prog 50 #[.agg #[.int .u8 a0_0, .slice A0_1 l0_1.length c0_1]] w fun e w' => e = .returned (.tuple #[.string r1, .string r2, .bool r3]) ∧ Below w.heap.size w w' := by
  have hu92 := Tryz.underlying92; have HR0_1 := Aside0.mk hr0_1; have HC0_1 := Aside0.mk hc0_1; clear hr0_1 hc0_1; have HB := Aside0.mk (Below.refl w.heap.size w); have H : (if a0_0 = 11 then ((bsoncore_ReadRegex.f l0_1).bind fun bt381 => (if bt381.2.2.2 = true then (some (bt381.1, bt381.2.1, true)) else (none))) else (some ((⟨#[]⟩ : ByteArray), (⟨#[]⟩ : ByteArray), false))) = some (r1, r2, r3) := h; clear h
  by_cases c2 : a0_0 = 11
  rotate_left
  · rw [if_neg c2] at H
    have c2b0 : (a0_0 == 11) = false := beq_eq_false_iff_ne.mpr c2; have c2b1 : (a0_0 != 11) = true := bne_iff_ne.mpr c2
    as_aux_lemma =>
      simp only [Option.some.injEq, Prod.mk.injEq] at H
      obtain ⟨rfl, rfl, rfl⟩ := H
      go_enter Tryz.func50, Tryz.ntmps50
      go_wp2_with (first | ((with_reducible refine gate_dst (N := 1) rfl ?_); refine box_event ?hg (N := 1) ?hd (cs := #[.int .u8 a0_0, .slice A0_1 l0_1.length c0_1]) (t := 92) ?hr ?_; (case hd => rfl); (case hg => rfl); (case hr => first | (go_simp; done) | (go_simp; rfl)); intro gb380 hg w8 hbox hb; have n0_ := Aside0.mk (below_step HW.zb hb); have n1_ := Aside0.mk (hbox); have n3_ := Aside0.mk ((by rw [hg]; exact (below_size HW.zb) : w.heap.size ≤ gb380)); clear HB; have HB := n0_; have BK380 := n1_; have GE380 := n3_; clear n0_ n1_ n3_; clear hb hbox hg; obtain ⟨hcz9_0, hcz9_1⟩ := HW.k2 BK380.out))
      go_ret3
      exact ⟨rfl, HW.zb⟩
  rw [if_pos c2] at H; have c2b0 : (a0_0 == 11) = true := beq_iff_eq.mpr c2; have c2b1 : (a0_0 != 11) = false := bne_eq_false_iff_eq.mpr c2; clear c2; replace H := Option.bind_eq_some_iff.mp H; obtain ⟨⟨t381, t382, t383, t386⟩, A30, H⟩ := H; replace H : (if t386 = true then (some (t381, t382, true)) else (none)) = some (r1, r2, r3) := H; have A3 := Aside0.mk A30; clear A30
  by_cases c4 : t386 = true
  rotate_left
  · replace c4 := Bool.eq_false_iff.mpr c4
    subst c4
    have H1 : (none) = some (r1, r2, r3) := by rw [if_neg (show ¬ (false = true) by decide)] at H; exact H
    clear H; have H := H1; clear H1
    exact absurd H (by simp)
  subst c4
  have H1 : (some (t381, t382, true)) = some (r1, r2, r3) := by rw [if_pos rfl] at H; exact H
  clear H; have H := H1; clear H1
  as_aux_lemma =>
    simp only [Option.some.injEq, Prod.mk.injEq] at H
    obtain ⟨rfl, rfl, rfl⟩ := H
    go_enter Tryz.func50, Tryz.ntmps50
    go_wp2_with (first | ((with_reducible refine gate_dst (N := 1) rfl ?_); refine box_event ?hg (N := 1) ?hd (cs := #[.int .u8 a0_0, .slice A0_1 l0_1.length c0_1]) (t := 92) ?hr ?_; (case hd => rfl); (case hg => rfl); (case hr => first | (go_simp; done) | (go_simp; rfl)); intro gb380 hg w5 hbox hb; have n0_ := Aside0.mk (below_step HW.zb hb); have n1_ := Aside0.mk (hbox); have n3_ := Aside0.mk ((by rw [hg]; exact (below_size HW.zb) : w.heap.size ≤ gb380)); clear HB; have HB := n0_; have BK380 := n1_; have GE380 := n3_; clear n0_ n1_ n3_; clear hb hbox hg; obtain ⟨hcz6_0, hcz6_1⟩ := HW.k2 BK380.out) | ((with_reducible refine gate_callee (f := 75) rfl ?_); refine HW.gz (some 11) rfl rfl Tryz.func75 (by kernel_rfl) rfl #[.slice A0_1 l0_1.length c0_1] rfl ?_; (with_reducible refine (bsoncore_ReadRegex.calls (fun k_ => k_ < w.heap.size) _ _ l0_1 t381 t382 t383 true _ ?side1 A3.out).mono ?_); (case side1 => exact Kd.V_mk HC0_1.out (Kd.F_below (Kd.C_F (Kd.heap_int .u8) HR0_1.out) HW.zb)); rintro e w7 ⟨v384, rfl, ho0, hb⟩; refine ⟨_, rfl, ?_⟩; have n2_ := Aside0.mk (below_step HW.zb hb); clear HB; have HB := n2_; clear n2_; (try clear hb); (try clear ho0)))
    go_ret3
    exact ⟨rfl, HW.zb⟩
def bson_RawValue_RegexOK.f (a0_0 : Int) (l0_1 : List Int) : Option (ByteArray × ByteArray × Bool) := (bson_convertToCoreValue.f a0_0 l0_1).bind fun bt388 => ((bsoncore_Value_RegexOK.f bt388.1 bt388.2).bind fun bt392 => (some (bt392.1, bt392.2.1, bt392.2.2)))
theorem bson_RawValue_RegexOK.calls (a0_0 : Int) (A0_1 : Option Addr) (c0_1 : Nat) (l0_1 : List Int) (r1 : ByteArray) (r2 : ByteArray) (r3 : Bool) (w : World) (hr0_1 : Kd.C (Kd.int .u8) w A0_1 l0_1.length l0_1) (hc0_1 : l0_1.length ≤ c0_1) (h : bson_RawValue_RegexOK.f a0_0 l0_1 = some (r1, r2, r3)) :
    Calls Tryz.prog 27 #[.agg #[.int .u8 a0_0, .slice A0_1 l0_1.length c0_1]] w fun e w' => e = .returned (.tuple #[.string r1, .string r2, .bool r3]) ∧ Below w.heap.size w w' := by
  have hu41 := Tryz.underlying41; have HR0_1 := Aside0.mk hr0_1; have HC0_1 := Aside0.mk hc0_1; clear hr0_1 hc0_1; have HB := Aside0.mk (Below.refl w.heap.size w); have H : ((bson_convertToCoreValue.f a0_0 l0_1).bind fun bt388 => ((bsoncore_Value_RegexOK.f bt388.1 bt388.2).bind fun bt392 => (some (bt392.1, bt392.2.1, bt392.2.2)))) = some (r1, r2, r3) := h; clear h; replace H := Option.bind_eq_some_iff.mp H; obtain ⟨⟨t388, t389⟩, A20, H⟩ := H; replace H : ((bsoncore_Value_RegexOK.f t388 t389).bind fun bt392 => (some (bt392.1, bt392.2.1, bt392.2.2))) = some (r1, r2, r3) := H; have A2 := Aside0.mk A20; clear A20; replace H := Option.bind_eq_some_iff.mp H; obtain ⟨⟨t392, t393, t394⟩, A30, H⟩ := H; replace H : (some (t392, t393, t394)) = some (r1, r2, r3) := H; have A3 := Aside0.mk A30; clear A30
  as_aux_lemma =>
    simp only [Option.some.injEq, Prod.mk.injEq] at H
    obtain ⟨rfl, rfl, rfl⟩ := H
    go_enter Tryz.func27, Tryz.ntmps27
    go_wp2_with (first | ((with_reducible refine gate_dst (N := 1) rfl ?_); refine box_event ?hg (N := 1) ?hd (cs := #[.int .u8 a0_0, .slice A0_1 l0_1.length c0_1]) (t := 41) ?hr ?_; (case hd => rfl); (case hg => rfl); (case hr => first | (go_simp; done) | (go_simp; rfl)); intro gb387 hg w4 hbox hb; have n0_ := Aside0.mk (below_step HW.zb hb); have n1_ := Aside0.mk (hbox); have n2_ := Aside0.mk ((by rw [hg]; exact (below_size HW.zb) : w.heap.size ≤ gb387)); have n3_ := Aside0.mk ((by rw [hg]; exact (below_size HW.zb) : w.heap.size ≤ gb387)); clear HB; have HB := n0_; have BK387 := n1_; have GW387 := n2_; have GE387 := n3_; clear n0_ n1_ n2_ n3_; clear hb hbox hg; obtain ⟨hcz5_0, hcz5_1⟩ := HW.k2 BK387.out) | ((with_reducible refine gate_callee (f := 41) rfl ?_); refine HW.gz (some 6) rfl rfl Tryz.func41 (by kernel_rfl) rfl #[.agg #[.int .u8 a0_0, .slice A0_1 l0_1.length c0_1]] rfl ?_; (with_reducible refine (bson_convertToCoreValue.calls a0_0 (fun k_ => k_ < w.heap.size) _ _ l0_1 t388 t389 _ ?side1 A2.out).mono ?_); (case side1 => exact Kd.V_mk HC0_1.out (Kd.F_below (Kd.C_F (Kd.heap_int .u8) HR0_1.out) HW.zb)); rintro e w6 ⟨v390, rfl, ho0, hb⟩; refine ⟨_, rfl, ?_⟩; have n0_ := Aside0.mk (Kd.V_lower (Kd.V_mono (ok' := fun k_ => k_ ≠ gb387) ho0 (fun k_ hk_ => Or.elim hk_ (fun hs_ => fun e_ => Nat.not_le.2 hs_ (by rw [e_]; exact GW387.out)) (fun hn_ => (Kd.freshB (g := gb387) (o := .cells #[.int .u8 a0_0, .slice A0_1 l0_1.length c0_1] 41 (0, 0)) (HW.zB BK387.out) k_ hn_)))) (below_size HW.zb)); have n2_ := Aside0.mk (below_step HW.zb hb); clear HB; have HO391 := n0_; have HB := n2_; clear n0_ n2_; (try clear hb); (try clear ho0); obtain ⟨Ao7, co7, eo7⟩ := Kd.V_slice HO391.out; subst eo7) | ((with_reducible refine gate_callee (f := 50) rfl ?_); refine HW.gz (some 7) rfl rfl Tryz.func50 (by kernel_rfl) rfl #[.agg #[.int .u8 t388, .slice Ao7 t389.length co7]] rfl ?_; (with_reducible refine (bsoncore_Value_RegexOK.calls t388 _ _ t389 t392 t393 t394 _ ?side1 ?side2 A3.out).mono ?_); (case side1 => repeat (first | exact (Kd.V_reads' HO391.out).2.2 | (with_reducible refine Kd.C_alloc ?_ _) | (with_reducible refine Kd.C_drewN ?_ _) | (with_reducible refine Kd.C_drew ?_))); (case side2 => exact (Kd.V_reads' HO391.out).2.1); rintro e w8 ⟨rfl, hb⟩; refine ⟨_, rfl, ?_⟩; have n2_ := Aside0.mk (below_step HW.zb hb); clear HB; have HB := n2_; clear n2_; (try clear hb)))
    go_ret3
    exact ⟨rfl, HW.zb⟩
def bsoncore_ReadJavaScript.f (k : Nat) (l0 : List Int) : Option (ByteArray × List Int × Bool) := (bsoncore_readstring.f k l0).bind fun bt395 => (some (bt395.1, bt395.2.1, bt395.2.2))
theorem bsoncore_ReadJavaScript.mono : ∀ a0 k, LeO (bsoncore_ReadJavaScript.f k a0) (bsoncore_ReadJavaScript.f (k + 1) a0) := by
  intro a0 k
  unfold bsoncore_ReadJavaScript.f
  have m0_ := @bsoncore_readstring.mono; exact HW.mo
theorem bsoncore_ReadJavaScript.calls (k : Nat) (P0_ : Nat → Prop) (A0 : Option Addr) (c0 : Nat) (l0 : List Int) (r1 : ByteArray) (r2 : List Int) (r3 : Bool) (w : World) (hs0 : Kd.V (Kd.int .u8) 5 w w.heap.size (fun k_ => P0_ k_) (.slice A0 l0.length c0) l0) (h : bsoncore_ReadJavaScript.f k l0 = some (r1, r2, r3)) :
    Calls Tryz.prog 77 #[.slice A0 l0.length c0] w fun e w' => ∃ v1_ : Value, e = .returned (.tuple #[.string r1, v1_, .bool r3]) ∧ Kd.V (Kd.int .u8) 5 w' w.heap.size (fun k_ => (P0_ k_ ∨ w.heap.size ≤ k_)) v1_ r2 ∧ Below w.heap.size w w' := by
  have HO0 := Aside0.mk (show Kd.V (Kd.int .u8) 5 w w.heap.size (fun k_ => (P0_ k_ ∨ w.heap.size ≤ k_)) (.slice A0 l0.length c0) l0 from Kd.V_mono hs0 (fun k_ hk => .inl hk)); have HB := Aside0.mk (Below.refl w.heap.size w); have H : ((bsoncore_readstring.f k l0).bind fun bt395 => (some (bt395.1, bt395.2.1, bt395.2.2))) = some (r1, r2, r3) := h; clear h; replace H := Option.bind_eq_some_iff.mp H; obtain ⟨⟨t395, t396, t399⟩, A20, H⟩ := H; replace H : (some (t395, t396, t399)) = some (r1, r2, r3) := H; have A2 := Aside0.mk A20; clear A20
  as_aux_lemma =>
    simp only [Option.some.injEq, Prod.mk.injEq] at H
    obtain ⟨rfl, rfl, rfl⟩ := H
    go_enter Tryz.func77, Tryz.ntmps77
    go_wp2_with (first | ((with_reducible refine gate_callee (f := 87) rfl ?_); refine HW.gz (some 6) rfl rfl Tryz.func87 (by kernel_rfl) rfl #[.slice A0 l0.length c0] rfl ?_; (with_reducible refine (bsoncore_readstring.calls k (fun k_ => (P0_ k_ ∨ w.heap.size ≤ k_)) _ _ l0 t395 t396 t399 _ ?side1 A2.out).mono ?_); (case side1 => exact HO0.out); rintro e w3 ⟨v397, rfl, ho0, hb⟩; refine ⟨_, rfl, ?_⟩; have HO398 := Aside0.mk (Kd.V_lower (Kd.V_mono (ok' := fun k_ => (P0_ k_ ∨ w.heap.size ≤ k_)) ho0 (fun k_ hk_ => Or.elim hk_ (fun hs_ => hs_) (fun hn_ => (.inr (Nat.le_trans (below_size HW.zb) hn_))))) (below_size HW.zb)); replace HB := Aside0.mk (below_step HW.zb hb); (try clear hb); (try clear ho0)))
    go_ret3
    exact ⟨_, rfl, HW.zV HO398.out, HW.zb⟩
def bsoncore_Value_JavaScriptOK.f (k : Nat) (a0_0 : Int) (l0_1 : List Int) : Option (ByteArray × Bool) := if a0_0 = 13 then ((bsoncore_ReadJavaScript.f k l0_1).bind fun bt401 => (if bt401.2.2 = true then (some (bt401.1, true)) else (none))) else (some ((⟨#[]⟩ : ByteArray), false))
theorem bsoncore_Value_JavaScriptOK.mono : ∀ a0 a1 k, LeO (bsoncore_Value_JavaScriptOK.f k a0 a1) (bsoncore_Value_JavaScriptOK.f (k + 1) a0 a1) := by
  intro a0 a1 k
  unfold bsoncore_Value_JavaScriptOK.f
  have m0_ := @bsoncore_ReadJavaScript.mono; exact HW.mo
theorem bsoncore_Value_JavaScriptOK.calls (k : Nat) (a0_0 : Int) (A0_1 : Option Addr) (c0_1 : Nat) (l0_1 : List Int) (r1 : ByteArray) (r2 : Bool) (w : World) (hr0_1 : Kd.C (Kd.int .u8) w A0_1 l0_1.length l0_1) (hc0_1 : l0_1.length ≤ c0_1) (h : bsoncore_Value_JavaScriptOK.f k a0_0 l0_1 = some (r1, r2)) :
    Calls Tryz.prog 52 #[.agg #[.int .u8 a0_0, .slice A0_1 l0_1.length c0_1]] w fun e w' => e = .returned (.tuple #[.string r1, .bool r2]) ∧ Below w.heap.size w w' := by
  have hu92 := Tryz.underlying92; have HR0_1 := Aside0.mk hr0_1; have HC0_1 := Aside0.mk hc0_1; clear hr0_1 hc0_1; have HB := Aside0.mk (Below.refl w.heap.size w); have H : (if a0_0 = 13 then ((bsoncore_ReadJavaScript.f k l0_1).bind fun bt401 => (if bt401.2.2 = true then (some (bt401.1, true)) else (none))) else (some ((⟨#[]⟩ : ByteArray), false))) = some (r1, r2) := h; clear h
  by_cases c2 : a0_0 = 13
  rotate_left
  · rw [if_neg c2] at H
    have c2b0 : (a0_0 == 13) = false := beq_eq_false_iff_ne.mpr c2; have c2b1 : (a0_0 != 13) = true := bne_iff_ne.mpr c2
    as_aux_lemma =>
      simp only [Option.some.injEq, Prod.mk.injEq] at H
      obtain ⟨rfl, rfl⟩ := H
      go_enter Tryz.func52, Tryz.ntmps52
      go_wp2_with (first | ((with_reducible refine gate_dst (N := 1) rfl ?_); refine box_event ?hg (N := 1) ?hd (cs := #[.int .u8 a0_0, .slice A0_1 l0_1.length c0_1]) (t := 92) ?hr ?_; (case hd => rfl); (case hg => rfl); (case hr => first | (go_simp; done) | (go_simp; rfl)); intro gb400 hg w8 hbox hb; have n0_ := Aside0.mk (below_step HW.zb hb); have n1_ := Aside0.mk (hbox); have n3_ := Aside0.mk ((by rw [hg]; exact (below_size HW.zb) : w.heap.size ≤ gb400)); clear HB; have HB := n0_; have BK400 := n1_; have GE400 := n3_; clear n0_ n1_ n3_; clear hb hbox hg; obtain ⟨hcz9_0, hcz9_1⟩ := HW.k2 BK400.out))
      go_ret2
      exact ⟨rfl, HW.zb⟩
  rw [if_pos c2] at H; have c2b0 : (a0_0 == 13) = true := beq_iff_eq.mpr c2; have c2b1 : (a0_0 != 13) = false := bne_eq_false_iff_eq.mpr c2; clear c2; replace H := Option.bind_eq_some_iff.mp H; obtain ⟨⟨t401, t402, t405⟩, A30, H⟩ := H; replace H : (if t405 = true then (some (t401, true)) else (none)) = some (r1, r2) := H; have A3 := Aside0.mk A30; clear A30
  by_cases c4 : t405 = true
  rotate_left
  · replace c4 := Bool.eq_false_iff.mpr c4
    subst c4
    have H1 : (none) = some (r1, r2) := by rw [if_neg (show ¬ (false = true) by decide)] at H; exact H
    clear H; have H := H1; clear H1
    exact absurd H (by simp)
  subst c4
  have H1 : (some (t401, true)) = some (r1, r2) := by rw [if_pos rfl] at H; exact H
  clear H; have H := H1; clear H1
  as_aux_lemma =>
    simp only [Option.some.injEq, Prod.mk.injEq] at H
    obtain ⟨rfl, rfl⟩ := H
    go_enter Tryz.func52, Tryz.ntmps52
    go_wp2_with (first | ((with_reducible refine gate_dst (N := 1) rfl ?_); refine box_event ?hg (N := 1) ?hd (cs := #[.int .u8 a0_0, .slice A0_1 l0_1.length c0_1]) (t := 92) ?hr ?_; (case hd => rfl); (case hg => rfl); (case hr => first | (go_simp; done) | (go_simp; rfl)); intro gb400 hg w5 hbox hb; have n0_ := Aside0.mk (below_step HW.zb hb); have n1_ := Aside0.mk (hbox); have n3_ := Aside0.mk ((by rw [hg]; exact (below_size HW.zb) : w.heap.size ≤ gb400)); clear HB; have HB := n0_; have BK400 := n1_; have GE400 := n3_; clear n0_ n1_ n3_; clear hb hbox hg; obtain ⟨hcz6_0, hcz6_1⟩ := HW.k2 BK400.out) | ((with_reducible refine gate_callee (f := 77) rfl ?_); refine HW.gz (some 13) rfl rfl Tryz.func77 (by kernel_rfl) rfl #[.slice A0_1 l0_1.length c0_1] rfl ?_; (with_reducible refine (bsoncore_ReadJavaScript.calls k (fun k_ => k_ < w.heap.size) _ _ l0_1 t401 t402 true _ ?side1 A3.out).mono ?_); (case side1 => exact Kd.V_mk HC0_1.out (Kd.F_below (Kd.C_F (Kd.heap_int .u8) HR0_1.out) HW.zb)); rintro e w7 ⟨v403, rfl, ho0, hb⟩; refine ⟨_, rfl, ?_⟩; have n2_ := Aside0.mk (below_step HW.zb hb); clear HB; have HB := n2_; clear n2_; (try clear hb); (try clear ho0)))
    go_ret2
    exact ⟨rfl, HW.zb⟩
def bson_RawValue_JavaScriptOK.f (k : Nat) (a0_0 : Int) (l0_1 : List Int) : Option (ByteArray × Bool) := (bson_convertToCoreValue.f a0_0 l0_1).bind fun bt407 => ((bsoncore_Value_JavaScriptOK.f k bt407.1 bt407.2).bind fun bt411 => (some (bt411.1, bt411.2)))
theorem bson_RawValue_JavaScriptOK.mono : ∀ a0 a1 k, LeO (bson_RawValue_JavaScriptOK.f k a0 a1) (bson_RawValue_JavaScriptOK.f (k + 1) a0 a1) := by
  intro a0 a1 k
  unfold bson_RawValue_JavaScriptOK.f
  have m0_ := @bsoncore_Value_JavaScriptOK.mono; exact HW.mo
theorem bson_RawValue_JavaScriptOK.calls (k : Nat) (a0_0 : Int) (A0_1 : Option Addr) (c0_1 : Nat) (l0_1 : List Int) (r1 : ByteArray) (r2 : Bool) (w : World) (hr0_1 : Kd.C (Kd.int .u8) w A0_1 l0_1.length l0_1) (hc0_1 : l0_1.length ≤ c0_1) (h : bson_RawValue_JavaScriptOK.f k a0_0 l0_1 = some (r1, r2)) :
    Calls Tryz.prog 29 #[.agg #[.int .u8 a0_0, .slice A0_1 l0_1.length c0_1]] w fun e w' => e = .returned (.tuple #[.string r1, .bool r2]) ∧ Below w.heap.size w w' := by
  have hu41 := Tryz.underlying41; have HR0_1 := Aside0.mk hr0_1; have HC0_1 := Aside0.mk hc0_1; clear hr0_1 hc0_1; have HB := Aside0.mk (Below.refl w.heap.size w); have H : ((bson_convertToCoreValue.f a0_0 l0_1).bind fun bt407 => ((bsoncore_Value_JavaScriptOK.f k bt407.1 bt407.2).bind fun bt411 => (some (bt411.1, bt411.2)))) = some (r1, r2) := h; clear h; replace H := Option.bind_eq_some_iff.mp H; obtain ⟨⟨t407, t408⟩, A20, H⟩ := H; replace H : ((bsoncore_Value_JavaScriptOK.f k t407 t408).bind fun bt411 => (some (bt411.1, bt411.2))) = some (r1, r2) := H; have A2 := Aside0.mk A20; clear A20; replace H := Option.bind_eq_some_iff.mp H; obtain ⟨⟨t411, t412⟩, A30, H⟩ := H; replace H : (some (t411, t412)) = some (r1, r2) := H; have A3 := Aside0.mk A30; clear A30
  as_aux_lemma =>
    simp only [Option.some.injEq, Prod.mk.injEq] at H
    obtain ⟨rfl, rfl⟩ := H
    go_enter Tryz.func29, Tryz.ntmps29
    go_wp2_with (first | ((with_reducible refine gate_dst (N := 1) rfl ?_); refine box_event ?hg (N := 1) ?hd (cs := #[.int .u8 a0_0, .slice A0_1 l0_1.length c0_1]) (t := 41) ?hr ?_; (case hd => rfl); (case hg => rfl); (case hr => first | (go_simp; done) | (go_simp; rfl)); intro gb406 hg w4 hbox hb; have n0_ := Aside0.mk (below_step HW.zb hb); have n1_ := Aside0.mk (hbox); have n2_ := Aside0.mk ((by rw [hg]; exact (below_size HW.zb) : w.heap.size ≤ gb406)); have n3_ := Aside0.mk ((by rw [hg]; exact (below_size HW.zb) : w.heap.size ≤ gb406)); clear HB; have HB := n0_; have BK406 := n1_; have GW406 := n2_; have GE406 := n3_; clear n0_ n1_ n2_ n3_; clear hb hbox hg; obtain ⟨hcz5_0, hcz5_1⟩ := HW.k2 BK406.out) | ((with_reducible refine gate_callee (f := 41) rfl ?_); refine HW.gz (some 5) rfl rfl Tryz.func41 (by kernel_rfl) rfl #[.agg #[.int .u8 a0_0, .slice A0_1 l0_1.length c0_1]] rfl ?_; (with_reducible refine (bson_convertToCoreValue.calls a0_0 (fun k_ => k_ < w.heap.size) _ _ l0_1 t407 t408 _ ?side1 A2.out).mono ?_); (case side1 => exact Kd.V_mk HC0_1.out (Kd.F_below (Kd.C_F (Kd.heap_int .u8) HR0_1.out) HW.zb)); rintro e w6 ⟨v409, rfl, ho0, hb⟩; refine ⟨_, rfl, ?_⟩; have n0_ := Aside0.mk (Kd.V_lower (Kd.V_mono (ok' := fun k_ => k_ ≠ gb406) ho0 (fun k_ hk_ => Or.elim hk_ (fun hs_ => fun e_ => Nat.not_le.2 hs_ (by rw [e_]; exact GW406.out)) (fun hn_ => (Kd.freshB (g := gb406) (o := .cells #[.int .u8 a0_0, .slice A0_1 l0_1.length c0_1] 41 (0, 0)) (HW.zB BK406.out) k_ hn_)))) (below_size HW.zb)); have n2_ := Aside0.mk (below_step HW.zb hb); clear HB; have HO410 := n0_; have HB := n2_; clear n0_ n2_; (try clear hb); (try clear ho0); obtain ⟨Ao7, co7, eo7⟩ := Kd.V_slice HO410.out; subst eo7) | ((with_reducible refine gate_callee (f := 52) rfl ?_); refine HW.gz (some 6) rfl rfl Tryz.func52 (by kernel_rfl) rfl #[.agg #[.int .u8 t407, .slice Ao7 t408.length co7]] rfl ?_; (with_reducible refine (bsoncore_Value_JavaScriptOK.calls k t407 _ _ t408 t411 t412 _ ?side1 ?side2 A3.out).mono ?_); (case side1 => repeat (first | exact (Kd.V_reads' HO410.out).2.2 | (with_reducible refine Kd.C_alloc ?_ _) | (with_reducible refine Kd.C_drewN ?_ _) | (with_reducible refine Kd.C_drew ?_))); (case side2 => exact (Kd.V_reads' HO410.out).2.1); rintro e w8 ⟨rfl, hb⟩; refine ⟨_, rfl, ?_⟩; have n2_ := Aside0.mk (below_step HW.zb hb); clear HB; have HB := n2_; clear n2_; (try clear hb)))
    go_ret2
    exact ⟨rfl, HW.zb⟩
def bsoncore_ReadSymbol.f (k : Nat) (l0 : List Int) : Option (ByteArray × List Int × Bool) := (bsoncore_readstring.f k l0).bind fun bt413 => (some (bt413.1, bt413.2.1, bt413.2.2))
theorem bsoncore_ReadSymbol.mono : ∀ a0 k, LeO (bsoncore_ReadSymbol.f k a0) (bsoncore_ReadSymbol.f (k + 1) a0) := by
  intro a0 k
  unfold bsoncore_ReadSymbol.f
  have m0_ := @bsoncore_readstring.mono; exact HW.mo
theorem bsoncore_ReadSymbol.calls (k : Nat) (P0_ : Nat → Prop) (A0 : Option Addr) (c0 : Nat) (l0 : List Int) (r1 : ByteArray) (r2 : List Int) (r3 : Bool) (w : World) (hs0 : Kd.V (Kd.int .u8) 5 w w.heap.size (fun k_ => P0_ k_) (.slice A0 l0.length c0) l0) (h : bsoncore_ReadSymbol.f k l0 = some (r1, r2, r3)) :
    Calls Tryz.prog 78 #[.slice A0 l0.length c0] w fun e w' => ∃ v1_ : Value, e = .returned (.tuple #[.string r1, v1_, .bool r3]) ∧ Kd.V (Kd.int .u8) 5 w' w.heap.size (fun k_ => (P0_ k_ ∨ w.heap.size ≤ k_)) v1_ r2 ∧ Below w.heap.size w w' := by
  have HO0 := Aside0.mk (show Kd.V (Kd.int .u8) 5 w w.heap.size (fun k_ => (P0_ k_ ∨ w.heap.size ≤ k_)) (.slice A0 l0.length c0) l0 from Kd.V_mono hs0 (fun k_ hk => .inl hk)); have HB := Aside0.mk (Below.refl w.heap.size w); have H : ((bsoncore_readstring.f k l0).bind fun bt413 => (some (bt413.1, bt413.2.1, bt413.2.2))) = some (r1, r2, r3) := h; clear h; replace H := Option.bind_eq_some_iff.mp H; obtain ⟨⟨t413, t414, t417⟩, A20, H⟩ := H; replace H : (some (t413, t414, t417)) = some (r1, r2, r3) := H; have A2 := Aside0.mk A20; clear A20
  as_aux_lemma =>
    simp only [Option.some.injEq, Prod.mk.injEq] at H
    obtain ⟨rfl, rfl, rfl⟩ := H
    go_enter Tryz.func78, Tryz.ntmps78
    go_wp2_with (first | ((with_reducible refine gate_callee (f := 87) rfl ?_); refine HW.gz (some 6) rfl rfl Tryz.func87 (by kernel_rfl) rfl #[.slice A0 l0.length c0] rfl ?_; (with_reducible refine (bsoncore_readstring.calls k (fun k_ => (P0_ k_ ∨ w.heap.size ≤ k_)) _ _ l0 t413 t414 t417 _ ?side1 A2.out).mono ?_); (case side1 => exact HO0.out); rintro e w3 ⟨v415, rfl, ho0, hb⟩; refine ⟨_, rfl, ?_⟩; have HO416 := Aside0.mk (Kd.V_lower (Kd.V_mono (ok' := fun k_ => (P0_ k_ ∨ w.heap.size ≤ k_)) ho0 (fun k_ hk_ => Or.elim hk_ (fun hs_ => hs_) (fun hn_ => (.inr (Nat.le_trans (below_size HW.zb) hn_))))) (below_size HW.zb)); replace HB := Aside0.mk (below_step HW.zb hb); (try clear hb); (try clear ho0)))
    go_ret3
    exact ⟨_, rfl, HW.zV HO416.out, HW.zb⟩
def bsoncore_Value_SymbolOK.f (k : Nat) (a0_0 : Int) (l0_1 : List Int) : Option (ByteArray × Bool) := if a0_0 = 14 then ((bsoncore_ReadSymbol.f k l0_1).bind fun bt419 => (if bt419.2.2 = true then (some (bt419.1, true)) else (none))) else (some ((⟨#[]⟩ : ByteArray), false))
theorem bsoncore_Value_SymbolOK.mono : ∀ a0 a1 k, LeO (bsoncore_Value_SymbolOK.f k a0 a1) (bsoncore_Value_SymbolOK.f (k + 1) a0 a1) := by
  intro a0 a1 k
  unfold bsoncore_Value_SymbolOK.f
  have m0_ := @bsoncore_ReadSymbol.mono; exact HW.mo
theorem bsoncore_Value_SymbolOK.calls (k : Nat) (a0_0 : Int) (A0_1 : Option Addr) (c0_1 : Nat) (l0_1 : List Int) (r1 : ByteArray) (r2 : Bool) (w : World) (hr0_1 : Kd.C (Kd.int .u8) w A0_1 l0_1.length l0_1) (hc0_1 : l0_1.length ≤ c0_1) (h : bsoncore_Value_SymbolOK.f k a0_0 l0_1 = some (r1, r2)) :
    Calls Tryz.prog 53 #[.agg #[.int .u8 a0_0, .slice A0_1 l0_1.length c0_1]] w fun e w' => e = .returned (.tuple #[.string r1, .bool r2]) ∧ Below w.heap.size w w' := by
  have hu92 := Tryz.underlying92; have HR0_1 := Aside0.mk hr0_1; have HC0_1 := Aside0.mk hc0_1; clear hr0_1 hc0_1; have HB := Aside0.mk (Below.refl w.heap.size w); have H : (if a0_0 = 14 then ((bsoncore_ReadSymbol.f k l0_1).bind fun bt419 => (if bt419.2.2 = true then (some (bt419.1, true)) else (none))) else (some ((⟨#[]⟩ : ByteArray), false))) = some (r1, r2) := h; clear h
  by_cases c2 : a0_0 = 14
  rotate_left
  · rw [if_neg c2] at H
    have c2b0 : (a0_0 == 14) = false := beq_eq_false_iff_ne.mpr c2; have c2b1 : (a0_0 != 14) = true := bne_iff_ne.mpr c2
    as_aux_lemma =>
      simp only [Option.some.injEq, Prod.mk.injEq] at H
      obtain ⟨rfl, rfl⟩ := H
      go_enter Tryz.func53, Tryz.ntmps53
      go_wp2_with (first | ((with_reducible refine gate_dst (N := 1) rfl ?_); refine box_event ?hg (N := 1) ?hd (cs := #[.int .u8 a0_0, .slice A0_1 l0_1.length c0_1]) (t := 92) ?hr ?_; (case hd => rfl); (case hg => rfl); (case hr => first | (go_simp; done) | (go_simp; rfl)); intro gb418 hg w8 hbox hb; have n0_ := Aside0.mk (below_step HW.zb hb); have n1_ := Aside0.mk (hbox); have n3_ := Aside0.mk ((by rw [hg]; exact (below_size HW.zb) : w.heap.size ≤ gb418)); clear HB; have HB := n0_; have BK418 := n1_; have GE418 := n3_; clear n0_ n1_ n3_; clear hb hbox hg; obtain ⟨hcz9_0, hcz9_1⟩ := HW.k2 BK418.out))
      go_ret2
      exact ⟨rfl, HW.zb⟩
  rw [if_pos c2] at H; have c2b0 : (a0_0 == 14) = true := beq_iff_eq.mpr c2; have c2b1 : (a0_0 != 14) = false := bne_eq_false_iff_eq.mpr c2; clear c2; replace H := Option.bind_eq_some_iff.mp H; obtain ⟨⟨t419, t420, t423⟩, A30, H⟩ := H; replace H : (if t423 = true then (some (t419, true)) else (none)) = some (r1, r2) := H; have A3 := Aside0.mk A30; clear A30
  by_cases c4 : t423 = true
  rotate_left
  · replace c4 := Bool.eq_false_iff.mpr c4
    subst c4
    have H1 : (none) = some (r1, r2) := by rw [if_neg (show ¬ (false = true) by decide)] at H; exact H
    clear H; have H := H1; clear H1
    exact absurd H (by simp)
  subst c4
  have H1 : (some (t419, true)) = some (r1, r2) := by rw [if_pos rfl] at H; exact H
  clear H; have H := H1; clear H1
  as_aux_lemma =>
    simp only [Option.some.injEq, Prod.mk.injEq] at H
    obtain ⟨rfl, rfl⟩ := H
    go_enter Tryz.func53, Tryz.ntmps53
    go_wp2_with (first | ((with_reducible refine gate_dst (N := 1) rfl ?_); refine box_event ?hg (N := 1) ?hd (cs := #[.int .u8 a0_0, .slice A0_1 l0_1.length c0_1]) (t := 92) ?hr ?_; (case hd => rfl); (case hg => rfl); (case hr => first | (go_simp; done) | (go_simp; rfl)); intro gb418 hg w5 hbox hb; have n0_ := Aside0.mk (below_step HW.zb hb); have n1_ := Aside0.mk (hbox); have n3_ := Aside0.mk ((by rw [hg]; exact (below_size HW.zb) : w.heap.size ≤ gb418)); clear HB; have HB := n0_; have BK418 := n1_; have GE418 := n3_; clear n0_ n1_ n3_; clear hb hbox hg; obtain ⟨hcz6_0, hcz6_1⟩ := HW.k2 BK418.out) | ((with_reducible refine gate_callee (f := 78) rfl ?_); refine HW.gz (some 13) rfl rfl Tryz.func78 (by kernel_rfl) rfl #[.slice A0_1 l0_1.length c0_1] rfl ?_; (with_reducible refine (bsoncore_ReadSymbol.calls k (fun k_ => k_ < w.heap.size) _ _ l0_1 t419 t420 true _ ?side1 A3.out).mono ?_); (case side1 => exact Kd.V_mk HC0_1.out (Kd.F_below (Kd.C_F (Kd.heap_int .u8) HR0_1.out) HW.zb)); rintro e w7 ⟨v421, rfl, ho0, hb⟩; refine ⟨_, rfl, ?_⟩; have n2_ := Aside0.mk (below_step HW.zb hb); clear HB; have HB := n2_; clear n2_; (try clear hb); (try clear ho0)))
    go_ret2
    exact ⟨rfl, HW.zb⟩
def bson_RawValue_SymbolOK.f (k : Nat) (a0_0 : Int) (l0_1 : List Int) : Option (ByteArray × Bool) := (bson_convertToCoreValue.f a0_0 l0_1).bind fun bt425 => ((bsoncore_Value_SymbolOK.f k bt425.1 bt425.2).bind fun bt429 => (some (bt429.1, bt429.2)))
theorem bson_RawValue_SymbolOK.mono : ∀ a0 a1 k, LeO (bson_RawValue_SymbolOK.f k a0 a1) (bson_RawValue_SymbolOK.f (k + 1) a0 a1) := by
  intro a0 a1 k
  unfold bson_RawValue_SymbolOK.f
  have m0_ := @bsoncore_Value_SymbolOK.mono; exact HW.mo
theorem bson_RawValue_SymbolOK.calls (k : Nat) (a0_0 : Int) (A0_1 : Option Addr) (c0_1 : Nat) (l0_1 : List Int) (r1 : ByteArray) (r2 : Bool) (w : World) (hr0_1 : Kd.C (Kd.int .u8) w A0_1 l0_1.length l0_1) (hc0_1 : l0_1.length ≤ c0_1) (h : bson_RawValue_SymbolOK.f k a0_0 l0_1 = some (r1, r2)) :
    Calls Tryz.prog 30 #[.agg #[.int .u8 a0_0, .slice A0_1 l0_1.length c0_1]] w fun e w' => e = .returned (.tuple #[.string r1, .bool r2]) ∧ Below w.heap.size w w' := by
  have hu41 := Tryz.underlying41; have HR0_1 := Aside0.mk hr0_1; have HC0_1 := Aside0.mk hc0_1; clear hr0_1 hc0_1; have HB := Aside0.mk (Below.refl w.heap.size w); have H : ((bson_convertToCoreValue.f a0_0 l0_1).bind fun bt425 => ((bsoncore_Value_SymbolOK.f k bt425.1 bt425.2).bind fun bt429 => (some (bt429.1, bt429.2)))) = some (r1, r2) := h; clear h; replace H := Option.bind_eq_some_iff.mp H; obtain ⟨⟨t425, t426⟩, A20, H⟩ := H; replace H : ((bsoncore_Value_SymbolOK.f k t425 t426).bind fun bt429 => (some (bt429.1, bt429.2))) = some (r1, r2) := H; have A2 := Aside0.mk A20; clear A20; replace H := Option.bind_eq_some_iff.mp H; obtain ⟨⟨t429, t430⟩, A30, H⟩ := H; replace H : (some (t429, t430)) = some (r1, r2) := H; have A3 := Aside0.mk A30; clear A30
  as_aux_lemma =>
    simp only [Option.some.injEq, Prod.mk.injEq] at H
    obtain ⟨rfl, rfl⟩ := H
    go_enter Tryz.func30, Tryz.ntmps30
    go_wp2_with (first | ((with_reducible refine gate_dst (N := 1) rfl ?_); refine box_event ?hg (N := 1) ?hd (cs := #[.int .u8 a0_0, .slice A0_1 l0_1.length c0_1]) (t := 41) ?hr ?_; (case hd => rfl); (case hg => rfl); (case hr => first | (go_simp; done) | (go_simp; rfl)); intro gb424 hg w4 hbox hb; have n0_ := Aside0.mk (below_step HW.zb hb); have n1_ := Aside0.mk (hbox); have n2_ := Aside0.mk ((by rw [hg]; exact (below_size HW.zb) : w.heap.size ≤ gb424)); have n3_ := Aside0.mk ((by rw [hg]; exact (below_size HW.zb) : w.heap.size ≤ gb424)); clear HB; have HB := n0_; have BK424 := n1_; have GW424 := n2_; have GE424 := n3_; clear n0_ n1_ n2_ n3_; clear hb hbox hg; obtain ⟨hcz5_0, hcz5_1⟩ := HW.k2 BK424.out) | ((with_reducible refine gate_callee (f := 41) rfl ?_); refine HW.gz (some 5) rfl rfl Tryz.func41 (by kernel_rfl) rfl #[.agg #[.int .u8 a0_0, .slice A0_1 l0_1.length c0_1]] rfl ?_; (with_reducible refine (bson_convertToCoreValue.calls a0_0 (fun k_ => k_ < w.heap.size) _ _ l0_1 t425 t426 _ ?side1 A2.out).mono ?_); (case side1 => exact Kd.V_mk HC0_1.out (Kd.F_below (Kd.C_F (Kd.heap_int .u8) HR0_1.out) HW.zb)); rintro e w6 ⟨v427, rfl, ho0, hb⟩; refine ⟨_, rfl, ?_⟩; have n0_ := Aside0.mk (Kd.V_lower (Kd.V_mono (ok' := fun k_ => k_ ≠ gb424) ho0 (fun k_ hk_ => Or.elim hk_ (fun hs_ => fun e_ => Nat.not_le.2 hs_ (by rw [e_]; exact GW424.out)) (fun hn_ => (Kd.freshB (g := gb424) (o := .cells #[.int .u8 a0_0, .slice A0_1 l0_1.length c0_1] 41 (0, 0)) (HW.zB BK424.out) k_ hn_)))) (below_size HW.zb)); have n2_ := Aside0.mk (below_step HW.zb hb); clear HB; have HO428 := n0_; have HB := n2_; clear n0_ n2_; (try clear hb); (try clear ho0); obtain ⟨Ao7, co7, eo7⟩ := Kd.V_slice HO428.out; subst eo7) | ((with_reducible refine gate_callee (f := 53) rfl ?_); refine HW.gz (some 6) rfl rfl Tryz.func53 (by kernel_rfl) rfl #[.agg #[.int .u8 t425, .slice Ao7 t426.length co7]] rfl ?_; (with_reducible refine (bsoncore_Value_SymbolOK.calls k t425 _ _ t426 t429 t430 _ ?side1 ?side2 A3.out).mono ?_); (case side1 => repeat (first | exact (Kd.V_reads' HO428.out).2.2 | (with_reducible refine Kd.C_alloc ?_ _) | (with_reducible refine Kd.C_drewN ?_ _) | (with_reducible refine Kd.C_drew ?_))); (case side2 => exact (Kd.V_reads' HO428.out).2.1); rintro e w8 ⟨rfl, hb⟩; refine ⟨_, rfl, ?_⟩; have n2_ := Aside0.mk (below_step HW.zb hb); clear HB; have HB := n2_; clear n2_; (try clear hb)))
    go_ret2
    exact ⟨rfl, HW.zb⟩
def bsoncore_ReadCodeWithScope.j0 : Nat → List Int → List Int → Bool → Option (ByteArray × List Int × List Int × Bool)
  | 0, _, _, _ => none
  | k + 1, x0, x4, x21 => if x21 = true then (some ((⟨#[]⟩ : ByteArray), ([] : List Int), x0, false)) else ((bsoncore_readstring.f k x4).bind fun bt436 => (if bt436.2.2 = true then ((bsoncore_ReadDocument.f bt436.2.1).bind fun bt441 => (if bt441.2.2 = true then (some (bt436.1, bt441.1, bt441.2.1, true)) else (some ((⟨#[]⟩ : ByteArray), ([] : List Int), x0, false)))) else (some ((⟨#[]⟩ : ByteArray), ([] : List Int), x0, false))))
def bsoncore_ReadCodeWithScope.f (k : Nat) (l0 : List Int) : Option (ByteArray × List Int × List Int × Bool) := (bsoncore_ReadLength.f l0).bind fun bt431 => (if bt431.2.2 = true then (bsoncore_ReadCodeWithScope.j0 k l0 bt431.2.1 (decide ((l0.length : Int) < (wrap64 (bt431.1))))) else (bsoncore_ReadCodeWithScope.j0 k l0 bt431.2.1 true))
theorem bsoncore_ReadCodeWithScope.mono_l : ∀ k, (∀ y0 y1 y2, LeO (bsoncore_ReadCodeWithScope.j0 k y0 y1 y2) (bsoncore_ReadCodeWithScope.j0 (k + 1) y0 y1 y2))
  | 0 => fun _ _ _ r h => by simp [bsoncore_ReadCodeWithScope.j0] at h
  | k + 1 => by
    have ih0 := bsoncore_ReadCodeWithScope.mono_l k
    · intro y0 y1 y2
      unfold bsoncore_ReadCodeWithScope.j0
      have m0_ := @ih0; have m1_ := @bsoncore_readstring.mono; exact HW.mo
theorem bsoncore_ReadCodeWithScope.mono : ∀ a0 k, LeO (bsoncore_ReadCodeWithScope.f k a0) (bsoncore_ReadCodeWithScope.f (k + 1) a0) := by
  intro a0 k
  have ih0 := bsoncore_ReadCodeWithScope.mono_l k
  unfold bsoncore_ReadCodeWithScope.f
  have m0_ := @ih0; have m1_ := @bsoncore_readstring.mono; exact HW.mo
theorem bsoncore_ReadCodeWithScope.calls (k : Nat) (P0_ : Nat → Prop) (A0 : Option Addr) (c0 : Nat) (l0 : List Int) (r1 : ByteArray) (r2 : List Int) (r3 : List Int) (r4 : Bool) (w : World) (hs0 : Kd.V (Kd.int .u8) 5 w w.heap.size (fun k_ => P0_ k_) (.slice A0 l0.length c0) l0) (h : bsoncore_ReadCodeWithScope.f k l0 = some (r1, r2, r3, r4)) :
    Calls Tryz.prog 79 #[.slice A0 l0.length c0] w fun e w' => ∃ v1_ v2_ : Value, e = .returned (.tuple #[.string r1, v1_, v2_, .bool r4]) ∧ Kd.V (Kd.int .u8) 5 w' w.heap.size (fun k_ => (P0_ k_ ∨ w.heap.size ≤ k_)) v1_ r2 ∧ Kd.V (Kd.int .u8) 5 w' w.heap.size (fun k_ => (P0_ k_ ∨ w.heap.size ≤ k_)) v2_ r3 ∧ Below w.heap.size w w' := by
  have HO0 := Aside0.mk (show Kd.V (Kd.int .u8) 5 w w.heap.size (fun k_ => (P0_ k_ ∨ w.heap.size ≤ k_)) (.slice A0 l0.length c0) l0 from Kd.V_mono hs0 (fun k_ hk => .inl hk)); have HB := Aside0.mk (Below.refl w.heap.size w); have H : ((bsoncore_ReadLength.f l0).bind fun bt431 => (if bt431.2.2 = true then (bsoncore_ReadCodeWithScope.j0 k l0 bt431.2.1 (decide ((l0.length : Int) < (wrap64 (bt431.1))))) else (bsoncore_ReadCodeWithScope.j0 k l0 bt431.2.1 true))) = some (r1, r2, r3, r4) := h; clear h; replace H := Option.bind_eq_some_iff.mp H; obtain ⟨⟨t431, t432, t435⟩, A20, H⟩ := H; replace H : (if t435 = true then (bsoncore_ReadCodeWithScope.j0 k l0 t432 (decide ((l0.length : Int) < (wrap64 (t431))))) else (bsoncore_ReadCodeWithScope.j0 k l0 t432 true)) = some (r1, r2, r3, r4) := H; have A2 := Aside0.mk A20; clear A20; have HC3 := Aside0.mk H; clear H
  go_enter Tryz.func79, Tryz.ntmps79
  go_upto_region 2 with (first | ((with_reducible refine gate_callee (f := 89) rfl ?_); refine HW.gz (some 9) rfl rfl Tryz.func89 (by kernel_rfl) rfl #[.slice A0 l0.length c0] rfl ?_; (with_reducible refine (bsoncore_ReadLength.calls (fun k_ => (P0_ k_ ∨ w.heap.size ≤ k_)) _ _ l0 t431 t432 t435 _ ?side1 A2.out).mono ?_); (case side1 => exact HO0.out); rintro e w4 ⟨v433, rfl, ho0, hb⟩; refine ⟨_, rfl, ?_⟩; replace HO0 := Aside0.mk (Kd.V_below (HW.zV HO0.out) hb); have HO434 := Aside0.mk (Kd.V_lower (Kd.V_mono (ok' := fun k_ => (P0_ k_ ∨ w.heap.size ≤ k_)) ho0 (fun k_ hk_ => Or.elim hk_ (fun hs_ => hs_) (fun hn_ => (.inr (Nat.le_trans (below_size HW.zb) hn_))))) (below_size HW.zb)); replace HB := Aside0.mk (below_step HW.zb hb); (try clear hb); (try clear ho0)))
  (try simp only [Act.put, List.setIfInBounds_toArray, List.set_cons_zero, List.set_cons_succ])
  go_cut [21] (fun v21 wc => ∃ (kq : Nat) (x21_2 : Bool), v21 = .bool x21_2 ∧ Aside0 (bsoncore_ReadCodeWithScope.j0 kq l0 t432 x21_2 = some (r1, r2, r3, r4)) ∧ Aside0 (kq ≤ k) ∧ Aside0 (Kd.V (Kd.int .u8) 5 wc w.heap.size (fun k_ => (P0_ k_ ∨ w.heap.size ≤ k_)) (.slice A0 l0.length c0) l0) ∧ Aside0 (Kd.V (Kd.int .u8) 5 wc w.heap.size (fun k_ => (P0_ k_ ∨ w.heap.size ≤ k_)) v433 t432) ∧ Aside0 (Below w.heap.size w wc))
  case first =>
    have H := HC3.out; clear HC3
    by_cases c5 : t435 = true
    · subst c5
      have H1 : (bsoncore_ReadCodeWithScope.j0 k l0 t432 (decide ((l0.length : Int) < (wrap64 (t431))))) = some (r1, r2, r3, r4) := by rw [if_pos rfl] at H; exact H
      clear H; have H := H1; clear H1
      as_aux_lemma =>
        have H' := Aside0.mk H; clear H
        go_wp2
        go_meet
        case rel => exact ⟨_, (decide ((l0.length : Int) < (wrap64 (t431)))), HW.rs, H', ⟨by first | omega | exact Nat.le_refl _⟩, ⟨HW.zV HO0.out⟩, ⟨HW.zV HO434.out⟩, ⟨HW.zb⟩⟩
    replace c5 := Bool.eq_false_iff.mpr c5; subst c5
    have H1 : (bsoncore_ReadCodeWithScope.j0 k l0 t432 true) = some (r1, r2, r3, r4) := by rw [if_neg (show ¬ (false = true) by decide)] at H; exact H
    clear H; have H := H1; clear H1
    as_aux_lemma =>
      have H' := Aside0.mk H; clear H
      go_wp2
      go_meet
      case rel => exact ⟨_, (true), HW.rs, H', ⟨by first | omega | exact Nat.le_refl _⟩, ⟨HW.zV HO0.out⟩, ⟨HW.zV HO434.out⟩, ⟨HW.zb⟩⟩
  case rest =>
    clear HC3
    (try clear p2); (try clear c5)
    obtain ⟨kq, x21_2, rfl, HA, HJ2, HO_0, HO_4, HB⟩ := hcut
    cases kq with
    | zero => exact absurd HA.out (by simp [bsoncore_ReadCodeWithScope.j0])
    | succ kj2 =>
      have H := HA.out; clear HA
      simp only [bsoncore_ReadCodeWithScope.j0] at H
      by_cases c6 : x21_2 = true
      · subst c6
        have H1 : (some ((⟨#[]⟩ : ByteArray), ([] : List Int), l0, false)) = some (r1, r2, r3, r4) := by rw [if_pos rfl] at H; exact H
        clear H; have H := H1; clear H1
        as_aux_lemma =>
          simp only [Option.some.injEq, Prod.mk.injEq] at H
          obtain ⟨rfl, rfl, rfl, rfl⟩ := H
          go_wp2
          refine bodyPost_ret (results_list (rs := [.tmp 2, .tmp 3, .tmp 4, .tmp 5]) rfl (by simp) (.tmp (.tmp (.tmp (.tmp .nil))))) rfl ?_
          exact ⟨_, _, rfl, Kd.V_nil _ _ _ _ _, HW.zV HO_0.out, HW.zb⟩
      replace c6 := Bool.eq_false_iff.mpr c6; subst c6
      have H1 : ((bsoncore_readstring.f kj2 t432).bind fun bt436 => (if bt436.2.2 = true then ((bsoncore_ReadDocument.f bt436.2.1).bind fun bt441 => (if bt441.2.2 = true then (some (bt436.1, bt441.1, bt441.2.1, true)) else (some ((⟨#[]⟩ : ByteArray), ([] : List Int), l0, false)))) else (some ((⟨#[]⟩ : ByteArray), ([] : List Int), l0, false)))) = some (r1, r2, r3, r4) := by rw [if_neg (show ¬ (false = true) by decide)] at H; exact H
      clear H; have H := H1; clear H1; replace H := Option.bind_eq_some_iff.mp H; obtain ⟨⟨t436, t437, t440⟩, A70, H⟩ := H; replace H : (if t440 = true then ((bsoncore_ReadDocument.f t437).bind fun bt441 => (if bt441.2.2 = true then (some (t436, bt441.1, bt441.2.1, true)) else (some ((⟨#[]⟩ : ByteArray), ([] : List Int), l0, false)))) else (some ((⟨#[]⟩ : ByteArray), ([] : List Int), l0, false))) = some (r1, r2, r3, r4) := H; have A7 := Aside0.mk A70; clear A70
      by_cases c8 : t440 = true
      rotate_left
      · replace c8 := Bool.eq_false_iff.mpr c8
        subst c8
        have H1 : (some ((⟨#[]⟩ : ByteArray), ([] : List Int), l0, false)) = some (r1, r2, r3, r4) := by rw [if_neg (show ¬ (false = true) by decide)] at H; exact H
        clear H; have H := H1; clear H1
        as_aux_lemma =>
          simp only [Option.some.injEq, Prod.mk.injEq] at H
          obtain ⟨rfl, rfl, rfl, rfl⟩ := H; obtain ⟨Ao19, co19, eo19⟩ := Kd.V_slice HO_4.out; subst eo19
          go_wp2_with (first | ((with_reducible refine gate_callee (f := 87) rfl ?_); refine HW.gz (some 25) rfl rfl Tryz.func87 (by kernel_rfl) rfl #[.slice Ao19 t432.length co19] rfl ?_; (with_reducible refine (bsoncore_readstring.calls kj2 (fun k_ => (P0_ k_ ∨ w.heap.size ≤ k_)) _ _ t432 t436 t437 false _ ?side1 A7.out).mono ?_); (case side1 => exact HO_4.out); rintro e w20 ⟨v438, rfl, ho0, hb⟩; refine ⟨_, rfl, ?_⟩; replace HO_0 := Aside0.mk (Kd.V_below (HW.zV HO_0.out) hb); replace HO_4 := Aside0.mk (Kd.V_below (HW.zV HO_4.out) hb); have HO439 := Aside0.mk (Kd.V_lower (Kd.V_mono (ok' := fun k_ => (P0_ k_ ∨ w.heap.size ≤ k_)) ho0 (fun k_ hk_ => Or.elim hk_ (fun hs_ => hs_) (fun hn_ => (.inr (Nat.le_trans (below_size HW.zb) hn_))))) (below_size HW.zb)); replace HB := Aside0.mk (below_step HW.zb hb); (try clear hb); (try clear ho0)))
          refine bodyPost_ret (results_list (rs := [.tmp 2, .tmp 3, .tmp 4, .tmp 5]) rfl (by simp) (.tmp (.tmp (.tmp (.tmp .nil))))) rfl ?_
          exact ⟨_, _, rfl, Kd.V_nil _ _ _ _ _, HW.zV HO_0.out, HW.zb⟩
      subst c8
      have H1 : ((bsoncore_ReadDocument.f t437).bind fun bt441 => (if bt441.2.2 = true then (some (t436, bt441.1, bt441.2.1, true)) else (some ((⟨#[]⟩ : ByteArray), ([] : List Int), l0, false)))) = some (r1, r2, r3, r4) := by rw [if_pos rfl] at H; exact H
      clear H; have H := H1; clear H1; replace H := Option.bind_eq_some_iff.mp H; obtain ⟨⟨t441, t444, t447⟩, A90, H⟩ := H; replace H : (if t447 = true then (some (t436, t441, t444, true)) else (some ((⟨#[]⟩ : ByteArray), ([] : List Int), l0, false))) = some (r1, r2, r3, r4) := H; have A9 := Aside0.mk A90; clear A90
      by_cases c10 : t447 = true
      · subst c10
        have H1 : (some (t436, t441, t444, true)) = some (r1, r2, r3, r4) := by rw [if_pos rfl] at H; exact H
        clear H; have H := H1; clear H1
        as_aux_lemma =>
          simp only [Option.some.injEq, Prod.mk.injEq] at H
          obtain ⟨rfl, rfl, rfl, rfl⟩ := H; obtain ⟨Ao11, co11, eo11⟩ := Kd.V_slice HO_4.out; subst eo11
          go_wp2_with (first | ((with_reducible refine gate_callee (f := 87) rfl ?_); refine HW.gz (some 25) rfl rfl Tryz.func87 (by kernel_rfl) rfl #[.slice Ao11 t432.length co11] rfl ?_; (with_reducible refine (bsoncore_readstring.calls kj2 (fun k_ => (P0_ k_ ∨ w.heap.size ≤ k_)) _ _ t432 t436 t437 true _ ?side1 A7.out).mono ?_); (case side1 => exact HO_4.out); rintro e w12 ⟨v438, rfl, ho0, hb⟩; refine ⟨_, rfl, ?_⟩; replace HO_0 := Aside0.mk (Kd.V_below (HW.zV HO_0.out) hb); replace HO_4 := Aside0.mk (Kd.V_below (HW.zV HO_4.out) hb); have HO439 := Aside0.mk (Kd.V_lower (Kd.V_mono (ok' := fun k_ => (P0_ k_ ∨ w.heap.size ≤ k_)) ho0 (fun k_ hk_ => Or.elim hk_ (fun hs_ => hs_) (fun hn_ => (.inr (Nat.le_trans (below_size HW.zb) hn_))))) (below_size HW.zb)); replace HB := Aside0.mk (below_step HW.zb hb); (try clear hb); (try clear ho0); obtain ⟨Ao13, co13, eo13⟩ := Kd.V_slice HO439.out; subst eo13) | ((with_reducible refine gate_callee (f := 69) rfl ?_); refine HW.gz (some 34) rfl rfl Tryz.func69 (by kernel_rfl) rfl #[.slice Ao13 t437.length co13] rfl ?_; (with_reducible refine (bsoncore_ReadDocument.calls (fun k_ => (P0_ k_ ∨ w.heap.size ≤ k_)) _ _ t437 t441 t444 true _ ?side1 A9.out).mono ?_); (case side1 => exact HO439.out); rintro e w14 ⟨v442, v445, rfl, ho0, ho1, hb⟩; refine ⟨_, rfl, ?_⟩; replace HO_0 := Aside0.mk (Kd.V_below (HW.zV HO_0.out) hb); replace HO_4 := Aside0.mk (Kd.V_below (HW.zV HO_4.out) hb); replace HO439 := Aside0.mk (Kd.V_below (HW.zV HO439.out) hb); have HO443 := Aside0.mk (Kd.V_lower (Kd.V_mono (ok' := fun k_ => (P0_ k_ ∨ w.heap.size ≤ k_)) ho0 (fun k_ hk_ => Or.elim hk_ (fun hs_ => hs_) (fun hn_ => (.inr (Nat.le_trans (below_size HW.zb) hn_))))) (below_size HW.zb)); have HO446 := Aside0.mk (Kd.V_lower (Kd.V_mono (ok' := fun k_ => (P0_ k_ ∨ w.heap.size ≤ k_)) ho1 (fun k_ hk_ => Or.elim hk_ (fun hs_ => hs_) (fun hn_ => (.inr (Nat.le_trans (below_size HW.zb) hn_))))) (below_size HW.zb)); replace HB := Aside0.mk (below_step HW.zb hb); (try clear hb); (try clear ho0); (try clear ho1)))
          refine bodyPost_ret (results_list (rs := [.tmp 2, .tmp 3, .tmp 4, .tmp 5]) rfl (by simp) (.tmp (.tmp (.tmp (.tmp .nil))))) rfl ?_
          exact ⟨_, _, rfl, HW.zV HO443.out, HW.zV HO446.out, HW.zb⟩
      replace c10 := Bool.eq_false_iff.mpr c10; subst c10
      have H1 : (some ((⟨#[]⟩ : ByteArray), ([] : List Int), l0, false)) = some (r1, r2, r3, r4) := by rw [if_neg (show ¬ (false = true) by decide)] at H; exact H
      clear H; have H := H1; clear H1
      as_aux_lemma =>
        simp only [Option.some.injEq, Prod.mk.injEq] at H
        obtain ⟨rfl, rfl, rfl, rfl⟩ := H; obtain ⟨Ao15, co15, eo15⟩ := Kd.V_slice HO_4.out; subst eo15
        go_wp2_with (first | ((with_reducible refine gate_callee (f := 87) rfl ?_); refine HW.gz (some 25) rfl rfl Tryz.func87 (by kernel_rfl) rfl #[.slice Ao15 t432.length co15] rfl ?_; (with_reducible refine (bsoncore_readstring.calls kj2 (fun k_ => (P0_ k_ ∨ w.heap.size ≤ k_)) _ _ t432 t436 t437 true _ ?side1 A7.out).mono ?_); (case side1 => exact HO_4.out); rintro e w16 ⟨v438, rfl, ho0, hb⟩; refine ⟨_, rfl, ?_⟩; replace HO_0 := Aside0.mk (Kd.V_below (HW.zV HO_0.out) hb); have HO439 := Aside0.mk (Kd.V_lower (Kd.V_mono (ok' := fun k_ => (P0_ k_ ∨ w.heap.size ≤ k_)) ho0 (fun k_ hk_ => Or.elim hk_ (fun hs_ => hs_) (fun hn_ => (.inr (Nat.le_trans (below_size HW.zb) hn_))))) (below_size HW.zb)); replace HB := Aside0.mk (below_step HW.zb hb); (try clear hb); (try clear ho0); obtain ⟨Ao17, co17, eo17⟩ := Kd.V_slice HO439.out; subst eo17) | ((with_reducible refine gate_callee (f := 69) rfl ?_); refine HW.gz (some 34) rfl rfl Tryz.func69 (by kernel_rfl) rfl #[.slice Ao17 t437.length co17] rfl ?_; (with_reducible refine (bsoncore_ReadDocument.calls (fun k_ => (P0_ k_ ∨ w.heap.size ≤ k_)) _ _ t437 t441 t444 false _ ?side1 A9.out).mono ?_); (case side1 => exact HO439.out); rintro e w18 ⟨v442, v445, rfl, ho0, ho1, hb⟩; refine ⟨_, rfl, ?_⟩; replace HO_0 := Aside0.mk (Kd.V_below (HW.zV HO_0.out) hb); replace HB := Aside0.mk (below_step HW.zb hb); (try clear hb); (try clear ho0); (try clear ho1)))
        refine bodyPost_ret (results_list (rs := [.tmp 2, .tmp 3, .tmp 4, .tmp 5]) rfl (by simp) (.tmp (.tmp (.tmp (.tmp .nil))))) rfl ?_
        exact ⟨_, _, rfl, Kd.V_nil _ _ _ _ _, HW.zV HO_0.out, HW.zb⟩
def bsoncore_Value_CodeWithScopeOK.f (k : Nat) (a0_0 : Int) (l0_1 : List Int) : Option (ByteArray × List Int × Bool) := if a0_0 = 15 then ((bsoncore_ReadCodeWithScope.f k l0_1).bind fun bt449 => (if bt449.2.2.2 = true then (some (bt449.1, bt449.2.1, true)) else (none))) else (some ((⟨#[]⟩ : ByteArray), ([] : List Int), false))
theorem bsoncore_Value_CodeWithScopeOK.mono : ∀ a0 a1 k, LeO (bsoncore_Value_CodeWithScopeOK.f k a0 a1) (bsoncore_Value_CodeWithScopeOK.f (k + 1) a0 a1) := by
  intro a0 a1 k
  unfold bsoncore_Value_CodeWithScopeOK.f
  have m0_ := @bsoncore_ReadCodeWithScope.mono; exact HW.mo
theorem bsoncore_Value_CodeWithScopeOK.calls (k : Nat) (a0_0 : Int) (P0_1_ : Nat → Prop) (A0_1 : Option Addr) (c0_1 : Nat) (l0_1 : List Int) (r1 : ByteArray) (r2 : List Int) (r3 : Bool) (w : World) (hs0_1 : Kd.V (Kd.int .u8) 5 w w.heap.size (fun k_ => P0_1_ k_) (.slice A0_1 l0_1.length c0_1) l0_1) (h : bsoncore_Value_CodeWithScopeOK.f k a0_0 l0_1 = some (r1, r2, r3)) :
    Calls Tryz.prog 54 #[.agg #[.int .u8 a0_0, .slice A0_1 l0_1.length c0_1]] w fun e w' => ∃ v1_ : Value, e = .returned (.tuple #[.string r1, v1_, .bool r3]) ∧ Kd.V (Kd.int .u8) 5 w' w.heap.size (fun k_ => (P0_1_ k_ ∨ w.heap.size ≤ k_)) v1_ r2 ∧ Below w.heap.size w w' := by
  have hu92 := Tryz.underlying92; have HO0_1 := Aside0.mk (show Kd.V (Kd.int .u8) 5 w w.heap.size (fun k_ => (P0_1_ k_ ∨ w.heap.size ≤ k_)) (.slice A0_1 l0_1.length c0_1) l0_1 from Kd.V_mono hs0_1 (fun k_ hk => .inl hk)); have HB := Aside0.mk (Below.refl w.heap.size w); have H : (if a0_0 = 15 then ((bsoncore_ReadCodeWithScope.f k l0_1).bind fun bt449 => (if bt449.2.2.2 = true then (some (bt449.1, bt449.2.1, true)) else (none))) else (some ((⟨#[]⟩ : ByteArray), ([] : List Int), false))) = some (r1, r2, r3) := h; clear h
  by_cases c2 : a0_0 = 15
  rotate_left
  · rw [if_neg c2] at H
    have c2b0 : (a0_0 == 15) = false := beq_eq_false_iff_ne.mpr c2; have c2b1 : (a0_0 != 15) = true := bne_iff_ne.mpr c2
    as_aux_lemma =>
      simp only [Option.some.injEq, Prod.mk.injEq] at H
      obtain ⟨rfl, rfl, rfl⟩ := H
      go_enter Tryz.func54, Tryz.ntmps54
      go_wp2_with (first | ((with_reducible refine gate_dst (N := 1) rfl ?_); refine box_event ?hg (N := 1) ?hd (cs := #[.int .u8 a0_0, .slice A0_1 l0_1.length c0_1]) (t := 92) ?hr ?_; (case hd => rfl); (case hg => rfl); (case hr => first | (go_simp; done) | (go_simp; rfl)); intro gb448 hg w8 hbox hb; have n0_ := Aside0.mk (Kd.V_below (Kd.V_elderB (HW.zV HO0_1.out) gb448 (Nat.le_of_eq hg.symm)) hb); have n1_ := Aside0.mk (below_step HW.zb hb); have n2_ := Aside0.mk (hbox); have n4_ := Aside0.mk ((by rw [hg]; exact (below_size HW.zb) : w.heap.size ≤ gb448)); clear HO0_1; clear HB; have HO0_1 := n0_; have HB := n1_; have BK448 := n2_; have GE448 := n4_; clear n0_ n1_ n2_ n4_; clear hb hbox hg; obtain ⟨hcz9_0, hcz9_1⟩ := HW.k2 BK448.out))
      go_ret3
      exact ⟨_, rfl, Kd.V_nil _ _ _ _ _, HW.zb⟩
  rw [if_pos c2] at H; have c2b0 : (a0_0 == 15) = true := beq_iff_eq.mpr c2; have c2b1 : (a0_0 != 15) = false := bne_eq_false_iff_eq.mpr c2; clear c2; replace H := Option.bind_eq_some_iff.mp H; obtain ⟨⟨t449, t450, t453, t456⟩, A30, H⟩ := H; replace H : (if t456 = true then (some (t449, t450, true)) else (none)) = some (r1, r2, r3) := H; have A3 := Aside0.mk A30; clear A30
  by_cases c4 : t456 = true
  rotate_left
  · replace c4 := Bool.eq_false_iff.mpr c4
    subst c4
    have H1 : (none) = some (r1, r2, r3) := by rw [if_neg (show ¬ (false = true) by decide)] at H; exact H
    clear H; have H := H1; clear H1
    exact absurd H (by simp)
  subst c4
  have H1 : (some (t449, t450, true)) = some (r1, r2, r3) := by rw [if_pos rfl] at H; exact H
  clear H; have H := H1; clear H1
  as_aux_lemma =>
    simp only [Option.some.injEq, Prod.mk.injEq] at H
    obtain ⟨rfl, rfl, rfl⟩ := H
    go_enter Tryz.func54, Tryz.ntmps54
    go_wp2_with (first | ((with_reducible refine gate_dst (N := 1) rfl ?_); refine box_event ?hg (N := 1) ?hd (cs := #[.int .u8 a0_0, .slice A0_1 l0_1.length c0_1]) (t := 92) ?hr ?_; (case hd => rfl); (case hg => rfl); (case hr => first | (go_simp; done) | (go_simp; rfl)); intro gb448 hg w5 hbox hb; have n0_ := Aside0.mk (Kd.V_below (Kd.V_elderB (HW.zV HO0_1.out) gb448 (Nat.le_of_eq hg.symm)) hb); have n1_ := Aside0.mk (below_step HW.zb hb); have n2_ := Aside0.mk (hbox); have n4_ := Aside0.mk ((by rw [hg]; exact (below_size HW.zb) : w.heap.size ≤ gb448)); clear HO0_1; clear HB; have HO0_1 := n0_; have HB := n1_; have BK448 := n2_; have GE448 := n4_; clear n0_ n1_ n2_ n4_; clear hb hbox hg; obtain ⟨hcz6_0, hcz6_1⟩ := HW.k2 BK448.out) | ((with_reducible refine gate_callee (f := 79) rfl ?_); refine HW.gz (some 15) rfl rfl Tryz.func79 (by kernel_rfl) rfl #[.slice A0_1 l0_1.length c0_1] rfl ?_; (with_reducible refine (bsoncore_ReadCodeWithScope.calls k (fun k_ => ((P0_1_ k_ ∨ w.heap.size ≤ k_) ∧ k_ ≠ gb448)) _ _ l0_1 t449 t450 t453 true _ ?side1 A3.out).mono ?_); (case side1 => exact HO0_1.out); rintro e w7 ⟨v451, v454, rfl, ho0, ho1, hb⟩; refine ⟨_, rfl, ?_⟩; have HO452 := Aside0.mk (Kd.V_lower (Kd.V_mono (ok' := fun k_ => (P0_1_ k_ ∨ w.heap.size ≤ k_) ∧ k_ ≠ gb448) ho0 (fun k_ hk_ => ⟨Or.elim hk_ (fun hs_ => hs_.1) (fun hn_ => (.inr (Nat.le_trans (below_size HW.zb) hn_))), Or.elim hk_ (fun hs_ => hs_.2) (fun hn_ => (Kd.freshB (g := gb448) (o := .cells #[.int .u8 a0_0, .slice A0_1 l0_1.length c0_1] 92 (0, 0)) (HW.zB BK448.out) k_ hn_))⟩)) (below_size HW.zb)); replace HB := Aside0.mk (below_step HW.zb hb); (try clear hb); (try clear ho0); (try clear ho1)))
    go_ret3
    exact ⟨_, rfl, by (with_reducible repeat (first | apply Kd.V_alloc | apply Kd.V_drewN | apply Kd.V_drew)); exact Kd.V_mono HO452.out (fun _ hk => hk.1), HW.zb⟩
end Go.Proofs.YtpbfigeaoefcmaaGreat.PBg
