import Derived.Test.YtbfhpjkahobgnaaGreatDoorPLox0
import Derived.Test.YtbfhpjkahobgnaaGreatDoorPLox1
import Derived.Test.YtbfhpjkahobgnaaGreatDoorPLox5
namespace Go.Proofs.YtbfhpjkahobgnaaGreatDoor.PLo
open Go.RowKit Go.Proofs.YtbfhpjkahobgnaaGreatDoorW.PrintWords Go.Proofs.YtbfhpjkahobgnaaGreatDoorW.PrintLast Go.Proofs.YtbfhpjkahobgnaaGreatDoorW.PrintMore
attribute [local go_sem] max2_int min2_int max_two min_two max_three min_three max_four min_four
set_option linter.unusedVariables false
set_option maxHeartbeats 8000000
set_option maxRecDepth 100000
set_option linter.unusedSimpArgs false
def impl_Lookup.f (k : Nat) (l0 : List Int) (l1 : List ByteArray) : Option (Int × List Int × Int) := (bsoncore_Document_LookupErr.f k l0 l1).bind fun bt349 => ((impl_raw.f bt349.1 bt349.2.1).bind fun bt355 => ((impl_code.f bt349.2.2).bind fun t359 => (some (bt355.1, bt355.2, t359))))
theorem impl_Lookup.mono : ∀ a0 a1 k, LeO (impl_Lookup.f k a0 a1) (impl_Lookup.f (k + 1) a0 a1) := by
  intro a0 a1 k
  unfold impl_Lookup.f
  have m0_ := @bsoncore_Document_LookupErr.mono; exact HW.mo
theorem impl_Lookup.calls (ρ : Nat → Addr) (k : Nat) (A0 : Option Addr) (c0 : Nat) (l0 : List Int) (A1 : Option Addr) (c1 : Nat) (l1 : List ByteArray) (r1 : Int) (r2 : List Int) (r3 : Int) (w : World) (hL : Er.LaidE ρ w) (hr0 : Kd.C (Kd.int .u8) w A0 l0.length l0) (hc0 : l0.length ≤ c0) (hr1 : Kd.C Kd.string w A1 l1.length l1) (hc1 : l1.length ≤ c1) (h : impl_Lookup.f k l0 l1 = some (r1, r2, r3)) :
    Calls Tryz.prog 18 #[.slice A0 l0.length c0, .slice A1 l1.length c1] w fun e w' => ∃ v1_ : Value, e = .returned (.tuple #[.agg #[.int .i64 r1, v1_], .int .i64 r3]) ∧ Kd.R (Kd.int .u8) 5 w' w.heap.size (fun _ => True) v1_ r2 ∧ Below w.heap.size w w' := by
  have hu25 := Tryz.underlying25; have hu67 := Tryz.underlying67; have HR0 := Aside0.mk hr0; have HC0 := Aside0.mk hc0; clear hr0 hc0; have HR1 := Aside0.mk hr1; have HC1 := Aside0.mk hc1; clear hr1 hc1; have HB := Aside0.mk (Below.refl w.heap.size w); have HL_ := Aside0.mk hL; clear hL; have H : ((bsoncore_Document_LookupErr.f k l0 l1).bind fun bt349 => ((impl_raw.f bt349.1 bt349.2.1).bind fun bt355 => ((impl_code.f bt349.2.2).bind fun t359 => (some (bt355.1, bt355.2, t359))))) = some (r1, r2, r3) := h; clear h; replace H := Option.bind_eq_some_iff.mp H; obtain ⟨⟨t349, t350, t353⟩, A30, H⟩ := H; replace H : ((impl_raw.f t349 t350).bind fun bt355 => ((impl_code.f t353).bind fun t359 => (some (bt355.1, bt355.2, t359)))) = some (r1, r2, r3) := H; have A3 := Aside0.mk A30; clear A30; replace H := Option.bind_eq_some_iff.mp H; obtain ⟨⟨t355, t356⟩, A40, H⟩ := H; replace H : ((impl_code.f t353).bind fun t359 => (some (t355, t356, t359))) = some (r1, r2, r3) := H; have A4 := Aside0.mk A40; clear A40; replace H := Option.bind_eq_some_iff.mp H; obtain ⟨t359, A50, H⟩ := H; replace H : (some (t355, t356, t359)) = some (r1, r2, r3) := H; have A5 := Aside0.mk A50; clear A50
  as_aux_lemma =>
    simp only [Option.some.injEq, Prod.mk.injEq] at H
    obtain ⟨rfl, rfl, rfl⟩ := H
    go_enter Tryz.func18, Tryz.ntmps18
    go_wp2_with (first | ((with_reducible refine gate_dst (N := 4) rfl ?_); refine box_event ?hg (N := 4) ?hd (cs := #[.int .i64 0, .slice none 0 0]) (t := 25) ?hr ?_; (case hd => rfl); (case hg => rfl); (case hr => first | (go_simp; done) | (go_simp; rfl)); intro gb348 hg w6 hbox hb; have BK348 := Aside0.mk (hbox); have GW348 := Aside0.mk ((by rw [hg]; exact (below_size HW.zb) : w.heap.size ≤ gb348)); have GE348 := Aside0.mk ((by rw [hg]; exact (below_size HW.zb) : w.heap.size ≤ gb348)); replace HB := Aside0.mk (below_step HW.zb hb); clear hb hbox hg) | ((with_reducible refine gate_callee (f := 35) rfl ?_); refine HW.gz (some 11) rfl rfl Tryz.func35 (by kernel_rfl) rfl #[.slice A0 l0.length c0, .slice A1 l1.length c1] rfl ?_; (with_reducible refine (bsoncore_Document_LookupErr.calls ρ k (fun k_ => k_ < w.heap.size) _ _ l0 _ _ l1 t349 t350 t353 _ ?aLD ?side1 ?side2 ?side3 A3.out).mono ?_); (case aLD => exact Er.LaidE.below HL_.out (by repeat (first | (with_reducible first | exact HB.out | apply below_alloc | apply pw_below_drewN | apply below_drew1 | refine below_set ?_ GE348.out | refine below_set ?_ GE354.out) | exact HB.out))); (case side1 => exact Kd.V_mk HC0.out (Kd.F_below (Kd.C_F (Kd.heap_int .u8) HR0.out) HW.zb)); (case side2 => repeat (first | exact (Kd.C_below HR1.out HB.out) | (with_reducible refine Kd.C_alloc ?_ _) | (with_reducible refine Kd.C_drewN ?_ _) | (with_reducible refine Kd.C_drew ?_))); (case side3 => exact HC1.out); rintro e w7 ⟨v351, ve_t353, rfl, hE_t353, ho0, hb⟩; refine ⟨_, rfl, ?_⟩; have HO352 := Aside0.mk (Kd.V_lower (Kd.V_mono (ok' := fun k_ => k_ ≠ gb348) ho0 (fun k_ hk_ => Or.elim hk_ (fun hs_ => fun e_ => Nat.not_le.2 hs_ (by rw [e_]; exact GW348.out)) (fun hn_ => (Kd.freshB (g := gb348) (o := .cells #[.int .i64 0, .slice none 0 0] 25 (0, 0)) (HW.zB BK348.out) k_ hn_)))) (below_size HW.zb)); replace BK348 := Aside0.mk (blk_below (HW.zB BK348.out) hb); replace HB := Aside0.mk (below_step HW.zb hb); (try clear hb); (try clear ho0); (first | (obtain rfl := Er.ErrR.nil_ hE_t353) | (refine (Er.ErrR.some_ hE_t353 (Aside0.out ?hsE)).elim ?_; (case hsE => with_reducible assumption); rintro T_hE_t353 ⟨X_hE_t353, rfl⟩) | skip); replace hE_t353 := Aside0.mk hE_t353) | ((with_reducible refine gate_dst (N := 6) rfl ?_); refine box_event ?hg (N := 6) ?hd (cs := #[.int .u8 0, .slice none 0 0]) (t := 67) ?hr ?_; (case hd => rfl); (case hg => rfl); (case hr => first | (go_simp; done) | (go_simp; rfl)); intro gb354 hg w8 hbox hb; replace HO352 := Aside0.mk (Kd.V_below (Kd.V_elderB (HW.zV HO352.out) gb354 (Nat.le_of_eq hg.symm)) hb); have BK354 := Aside0.mk (hbox); have GE354 := Aside0.mk ((by rw [hg]; exact (below_size HW.zb) : w.heap.size ≤ gb354)); have NB348_354 := Aside0.mk ((by rw [hg]; exact Nat.ne_of_lt (blk_lt (g := gb348) (o := .cells #[.int .i64 0, .slice none 0 0] 25 (0, 0)) (HW.zB BK348.out)) : gb348 ≠ gb354)); have NB354_348 := Aside0.mk ((by rw [hg]; exact Nat.ne_of_gt (blk_lt (g := gb348) (o := .cells #[.int .i64 0, .slice none 0 0] 25 (0, 0)) (HW.zB BK348.out)) : gb354 ≠ gb348)); replace BK348 := Aside0.mk (blk_below (HW.zB BK348.out) hb); replace HB := Aside0.mk (below_step HW.zb hb); clear hb hbox hg; have hnb9 := NB354_348.out; have hnc9 := NB348_354.out; obtain ⟨hcz10_0, hcz10_1, hfz11_0, hfz11_1⟩ := HW.k2f BK354.out; obtain ⟨Ao12, co12, eo12⟩ := Kd.V_slice HO352.out; subst eo12) | ((with_reducible refine gate_callee (f := 26) rfl ?_); refine HW.gz (some 15) rfl rfl Tryz.func26 (by kernel_rfl) rfl #[.agg #[.int .u8 t349, .slice Ao12 t350.length co12]] rfl ?_; (with_reducible refine (impl_raw.calls t349 _ _ t350 t355 t356 _ ?side1 ?side2 A4.out).mono ?_); (case side1 => refine (Kd.V_reads' (e := 5) (base := w.heap.size) (ok := fun k_ => (k_ ≠ gb348 ∧ k_ ≠ gb354)) (n := t350.length) (c := co12) ?_).2.2; exact (by (with_reducible repeat (first | apply Kd.V_alloc | apply Kd.V_drewN | apply Kd.V_drew)); exact (Kd.V_mono (Kd.V_far (p := ⟨gb354, 1, none⟩) (Kd.V_far (p := ⟨gb354, 0, none⟩) (Kd.V_mono HO352.out (fun k_ hk => (⟨hk, hk.2⟩ : _ ∧ k_ ≠ gb354))) (fun _ hk => hk.2) (.int .u8 t349)) (fun _ hk => hk.2) (.slice Ao12 t350.length co12)) (fun _ h_ => h_.1)))); (case side2 => exact (Kd.V_reads' HO352.out).2.1); rintro e w13 ⟨v357, rfl, ho0, hb⟩; refine ⟨_, rfl, ?_⟩; have HO358 := Aside0.mk (Kd.R_lower ho0 (below_size HW.zb)); replace BK348 := Aside0.mk (blk_below (g := gb348) (o := .cells #[.int .i64 0, .slice none 0 0] 25 (0, 0)) (by (with_reducible repeat (first | refine blk_drewN ?_ _ | refine blk_drew ?_ | refine blk_alloc ?_ _)); refine blk_far ?_ NB348_354.out _; (with_reducible repeat (first | refine blk_drewN ?_ _ | refine blk_drew ?_ | refine blk_alloc ?_ _)); refine blk_far ?_ NB348_354.out _; exact HW.zB BK348.out) hb); replace HB := Aside0.mk (below_step HW.zb hb); (try clear hb); (try clear ho0)) | (go_at_call 24; (with_reducible refine (impl_code.calls ρ _ t353 t359 _ ?aLD ?side1 A5.out).mono ?_); (case aLD => exact Er.LaidE.below HL_.out (by repeat (first | (with_reducible first | exact HB.out | apply below_alloc | apply pw_below_drewN | apply below_drew1 | refine below_set ?_ GE348.out | refine below_set ?_ GE354.out) | exact HB.out))); (case side1 => first | exact Er.ErrR.nil | (refine Aside0.out ?_; first | with_reducible assumption | assumption) | exact Er.ErrR.val _ | exact Er.ErrR.mal _ | exact Er.ErrR.dep _ _ | (refine Er.ErrR.few _ _ ?_ ?_ <;> first | exact ⟨_, _, _, rfl⟩ | (refine Er.isl_V (Aside0.out ?_); with_reducible assumption)) | (refine Er.ErrR.sent _ _ ?_ ?_ <;> decide)); rintro e w14 ⟨rfl, hb⟩; replace HO358 := Aside0.mk (Kd.R_below (HW.zR HO358.out) hb); replace BK348 := Aside0.mk (blk_below (HW.zB BK348.out) hb); replace HB := Aside0.mk (below_step HW.zb hb); (try clear hb); obtain ⟨hcz15_0, hcz15_1, hfz16_0, hfz16_1⟩ := HW.k2f BK348.out; obtain ⟨Ao17, co17, eo17⟩ := Kd.R_slice HO358.out; subst eo17))
    refine bodyPost_ret (results_ct rfl _ _ gb348 25 #[.int .i64 t355, .slice Ao17 t356.length co17] (0, 0) _ rfl (by (with_reducible repeat (first | refine blk_drewN ?_ _ | refine blk_drew ?_ | refine blk_alloc ?_ _)); refine blk_put (cs := #[.int .i64 t355, .slice none 0 0]) ?_ 1 _ rfl; (with_reducible repeat (first | refine blk_drewN ?_ _ | refine blk_drew ?_ | refine blk_alloc ?_ _)); refine blk_put (cs := #[.int .i64 0, .slice none 0 0]) ?_ 0 _ rfl; exact HW.zB BK348.out) Tryz.underlying25 rfl (by kernel_rfl)) rfl ?_
    exact ⟨_, rfl, by (with_reducible repeat (first | apply Kd.R_alloc | apply Kd.R_drewN | apply Kd.R_drew)); exact Kd.R_mono (Kd.R_far (p := ⟨gb348, 1, none⟩) (Kd.R_far (p := ⟨gb348, 0, none⟩) (Kd.R_types HO358.out BK348.out (by decide)) (fun _ hk => hk.2) (.int .i64 t355)) (fun _ hk => hk.2) (.slice Ao17 t356.length co17)) (fun _ hk => trivial), HW.zb⟩
def errors_New.f (a0 : ByteArray) : Option (Option (Int × ByteArray)) := none
theorem errors_New.calls (ρ : Nat → Addr) (a0 : ByteArray) (r : Option (Int × ByteArray)) (w : World) (h : errors_New.f a0 = some r) :
    Calls Tryz.prog 153 #[.string a0] w fun e w' => ∃ v0_ : Value, e = .returned (v0_) ∧ Er.ErrR ρ v0_ r ∧ Below w.heap.size w w' := by
  have hu262 := Tryz.underlying262; have hu59 := Tryz.underlying59; have HB := Aside0.mk (Below.refl w.heap.size w); have H : (none) = some r := h; clear h
  exact absurd H (by simp)
def put4 (l : List Int) (i : Nat) (v : Int) : List Int := (((l.set i (v % 256)).set (i + 1) (v / 256 % 256)).set (i + 2) (v / 65536 % 256)).set (i + 3) (v / 16777216)
def bsoncore_UpdateLength.f (l0 : List Int) (a1 : Int) (a2 : Int) : Option (List Int) := if 0 ≤ a1 then (if a1 + 4 ≤ (l0.length : Int) then (some (put4 l0 a1.toNat (a2 % 4294967296))) else none) else none
theorem put32_calls (g o n c : Nat) (v x0 x1 x2 x3 : Int) (w : World) (hn : 4 ≤ n) (hv0 : 0 ≤ v) (hv1 : v ≤ 4294967295)
    (c0 : w.cell? ⟨g, o, none⟩ = some (.int .u8 x0)) (c1 : w.cell? ⟨g, o + 1, none⟩ = some (.int .u8 x1)) (c2 : w.cell? ⟨g, o + 2, none⟩ = some (.int .u8 x2)) (c3 : w.cell? ⟨g, o + 3, none⟩ = some (.int .u8 x3))
    (f0 : w.frozen? ⟨g, o, none⟩ = false) (f1 : w.frozen? ⟨g, o + 1, none⟩ = false) (f2 : w.frozen? ⟨g, o + 2, none⟩ = false) (f3 : w.frozen? ⟨g, o + 3, none⟩ = false) :
    Calls Tryz.prog 206 #[.agg #[], .slice (some ⟨g, o, none⟩) n c, .int .u32 v] w fun e w' => e = .returned (.tuple #[]) ∧
      w' = ((((w.alloc (.cells #[] 227)).setCell ⟨g, o, none⟩ (.int .u8 (v % 256))).setCell ⟨g, o + 1, none⟩ (.int .u8 (v / 256 % 256))).setCell ⟨g, o + 2, none⟩ (.int .u8 (v / 65536 % 256))).setCell ⟨g, o + 3, none⟩ (.int .u8 (v / 16777216)) := by
  have q0 : (0 < n) = True := eq_true (by omega)
  have q1 : (1 < n) = True := eq_true (by omega)
  have q2 : (2 < n) = True := eq_true (by omega)
  have q3 : (3 < n) = True := eq_true (by omega)
  have r1 : ((1 : Int) < (n : Int)) = True := eq_true (by omega)
  have r2 : ((2 : Int) < (n : Int)) = True := eq_true (by omega)
  have r3 : ((3 : Int) < (n : Int)) = True := eq_true (by omega)
  have d0 : (w.alloc (.cells #[] 227)).cell? ⟨g, o, none⟩ = some (.int .u8 x0) := pw_cell_below (below_alloc (Below.refl _ _) _) c0; have e0 : (w.alloc (.cells #[] 227)).frozen? ⟨g, o, none⟩ = false := ((below_alloc (Below.refl _ _) _).frozen (p := ⟨g, o, none⟩) (World.block_lt_of_cell? w _ c0)).trans f0; have d1 : (w.alloc (.cells #[] 227)).cell? ⟨g, o + 1, none⟩ = some (.int .u8 x1) := pw_cell_below (below_alloc (Below.refl _ _) _) c1; have e1 : (w.alloc (.cells #[] 227)).frozen? ⟨g, o + 1, none⟩ = false := ((below_alloc (Below.refl _ _) _).frozen (p := ⟨g, o + 1, none⟩) (World.block_lt_of_cell? w _ c1)).trans f1; have d2 : (w.alloc (.cells #[] 227)).cell? ⟨g, o + 2, none⟩ = some (.int .u8 x2) := pw_cell_below (below_alloc (Below.refl _ _) _) c2; have e2 : (w.alloc (.cells #[] 227)).frozen? ⟨g, o + 2, none⟩ = false := ((below_alloc (Below.refl _ _) _).frozen (p := ⟨g, o + 2, none⟩) (World.block_lt_of_cell? w _ c2)).trans f2; have d3 : (w.alloc (.cells #[] 227)).cell? ⟨g, o + 3, none⟩ = some (.int .u8 x3) := pw_cell_below (below_alloc (Below.refl _ _) _) c3; have e3 : (w.alloc (.cells #[] 227)).frozen? ⟨g, o + 3, none⟩ = false := ((below_alloc (Below.refl _ _) _).frozen (p := ⟨g, o + 3, none⟩) (World.block_lt_of_cell? w _ c3)).trans f3
  go_enter Tryz.func206, Tryz.ntmps206
  go_wp2
  go_end0
  exact ⟨rfl, rfl⟩
theorem put4_world {w0 w : World} {e : Nat} {ok S : Nat → Prop} {g n cap j : Nat} {xs : List Int} (o : Obj) (b0 b1 b2 b3 : Int) (h : (Kd.int .u8).R e w w0.heap.size ok (.slice (some ⟨g, 0, none⟩) n cap) xs) (hB : Below w0.heap.size w0 w) (hg : w0.heap.size ≤ g) (hS : S g) :
    (Kd.int .u8).R e (((((w.alloc o).setCell ⟨g, j, none⟩ (.int .u8 b0)).setCell ⟨g, j + 1, none⟩ (.int .u8 b1)).setCell ⟨g, j + 2, none⟩ (.int .u8 b2)).setCell ⟨g, j + 3, none⟩ (.int .u8 b3)).drew w0.heap.size ok (.slice (some ⟨g, 0, none⟩) n cap) ((((xs.set j b0).set (j + 1) b1).set (j + 2) b2).set (j + 3) b3) ∧
    Below w0.heap.size w0 (((((w.alloc o).setCell ⟨g, j, none⟩ (.int .u8 b0)).setCell ⟨g, j + 1, none⟩ (.int .u8 b1)).setCell ⟨g, j + 2, none⟩ (.int .u8 b2)).setCell ⟨g, j + 3, none⟩ (.int .u8 b3)).drew ∧
    Kept w (((((w.alloc o).setCell ⟨g, j, none⟩ (.int .u8 b0)).setCell ⟨g, j + 1, none⟩ (.int .u8 b1)).setCell ⟨g, j + 2, none⟩ (.int .u8 b2)).setCell ⟨g, j + 3, none⟩ (.int .u8 b3)).drew S := by
  refine ⟨?_, ?_, ?_⟩
  · refine Kd.R_drew ?_
    have p0 := Kd.R_putn (enc := Value.int .u8) (h1 := fun _ => rfl) (Kd.R_alloc h o) (j : Int) b0; have p1 := Kd.R_putn (enc := Value.int .u8) (h1 := fun _ => rfl) p0 ((j + 1 : Nat) : Int) b1; have p2 := Kd.R_putn (enc := Value.int .u8) (h1 := fun _ => rfl) p1 ((j + 2 : Nat) : Int) b2
    exact Kd.R_putn (enc := Value.int .u8) (h1 := fun _ => rfl) p2 ((j + 3 : Nat) : Int) b3
  · exact below_drew (below_set (below_set (below_set (below_set (hB.alloc hB.size o) hg) hg) hg) hg)
  exact Kept.drew (Kept.setCell (Kept.setCell (Kept.setCell (Kept.setCell (Kept.alloc (Kept.refl _ _) o) (p := ⟨g, j, none⟩) (.inl hS) _) (p := ⟨g, j + 1, none⟩) (.inl hS) _) (p := ⟨g, j + 2, none⟩) (.inl hS) _) (p := ⟨g, j + 3, none⟩) (.inl hS) _)
theorem bsoncore_UpdateLength.calls (P0_ : Nat → Prop) (u9000_ : Value) (l0 : List Int) (a1 : Int) (a2 : Int) (r : List Int) (w0 w : World) (hB : Below w0.heap.size w0 w) (ho0 : Kd.R (Kd.int .u8) 5 w w0.heap.size P0_ u9000_ l0) (h : bsoncore_UpdateLength.f l0 a1 a2 = some r) :
    Calls Tryz.prog 154 #[u9000_, .int .i32 a1, .int .i32 a2] w fun e w' => ∃ v0_ : Value, e = .returned (v0_) ∧ Kd.R (Kd.int .u8) 5 w' w0.heap.size (fun k_ => (P0_ k_ ∨ w.heap.size ≤ k_)) v0_ r ∧ Below w0.heap.size w0 w' ∧ Kept w w' (fun k_ => P0_ k_) := by
  have hh : (0 ≤ a1 ∧ a1 + 4 ≤ (l0.length : Int)) ∧ r = put4 l0 a1.toNat (a2 % 4294967296) := by
    unfold bsoncore_UpdateLength.f at h
    by_cases h0 : 0 ≤ a1
    rotate_left
    · rw [if_neg h0] at h; cases h
    rw [if_pos h0] at h
    by_cases h1 : a1 + 4 ≤ (l0.length : Int)
    · rw [if_pos h1] at h
      exact ⟨⟨h0, h1⟩, (Option.some.inj h).symm⟩
    rw [if_neg h1] at h; cases h
  obtain ⟨⟨h0, h1⟩, rfl⟩ := hh; clear h; have hown := Kd.own_of_R (enc := Value.int .u8) (h1 := fun _ => rfl) ho0
  have hform : ∃ g cap, u9000_ = .slice (some ⟨g, 0, none⟩) l0.length cap ∧ l0.length ≤ cap := by
    rcases hown.2 with ⟨_, hz⟩ | ⟨g, cap, cur, hv, _, _, hc, _⟩
    · omega
    exact ⟨g, cap, hv, hc⟩
  obtain ⟨g, cap, rfl, hcap⟩ := hform
  obtain ⟨j, rfl⟩ : ∃ j : Nat, a1 = (j : Int) := ⟨a1.toNat, by omega⟩
  obtain ⟨i0, hi0, hz0⟩ := Option.map_eq_some_iff.1 info5
  simp only [Prod.mk.injEq] at hz0
  have hcut := cut_from (P := Tryz.prog) 22 5 .i32 Tryz.underlying22 hi0 1 hz0.2.1 (some ⟨g, 0, none⟩) l0.length cap (j : Int) (by omega) (by omega)
  have hne : ¬ (cap = (j : Int).toNat) := by omega
  rw [if_neg hne] at hcut
  have hadd : ((some ⟨g, 0, none⟩ : Option Addr).map (·.add ((j : Int).toNat * 1))) = some ⟨g, j, none⟩ := by
    show some ((⟨g, 0, none⟩ : Addr).add ((j : Int).toNat * 1)) = _
    rw [add_plain]
    simp
  rw [hadd] at hcut
  simp only [Int.toNat_natCast] at hcut
  have hat : ∀ i : Nat, i < 4 → w.cell? ⟨g, j + i, none⟩ = some (.int .u8 (rd l0 ((j + i : Nat) : Int))) ∧ w.frozen? ⟨g, j + i, none⟩ = false := by
    intro i hi
    have := own_at (k := .u8) (xs := l0) hown ((j + i : Nat) : Int) (by omega) (by omega)
    rw [Int.toNat_natCast] at this
    exact this
  have c0 := (hat 0 (by omega)).1
  have f0 := (hat 0 (by omega)).2
  have c1 := (hat 1 (by omega)).1
  have f1 := (hat 1 (by omega)).2
  have c2 := (hat 2 (by omega)).1
  have f2 := (hat 2 (by omega)).2
  have c3 := (hat 3 (by omega)).1
  have f3 := (hat 3 (by omega)).2
  have HO := Aside0.mk ho0; have HB := Aside0.mk hB; have HG := Aside0.mk (own_base hown g rfl); clear hat hne hadd hown hz0 ho0 hB
  go_enter Tryz.func154, Tryz.ntmps154
  go_wp2
  go_still_tail 6, (by kernel_rfl)
  change wpList _ _ _ _ _ w.drew
  have hwr : IntKind.u32.wrap a2 = a2 % 4294967296 := by simp [IntKind.wrap, IntKind.bits, IntKind.signed]
  rw [hwr]
  go_wp2_with (go_at_call 206; refine (put32_calls g j (l0.length - j) (cap - j) (a2 % 4294967296) _ _ _ _ w.drew (by omega) (by omega) (by omega) c0 c1 c2 c3 f0 f1 f2 f3).mono ?_; rintro e w' ⟨rfl, rfl⟩)
  go_ret
  have hmm : a2 % 256 = a2 % 4294967296 % 256 := by omega
  rw [hmm]; obtain ⟨pR, pB, pK⟩ := put4_world (j := j) (S := fun k_ => P0_ k_) (.cells #[] 227) (a2 % 4294967296 % 256) (a2 % 4294967296 / 256 % 256) (a2 % 4294967296 / 65536 % 256) (a2 % 4294967296 / 16777216) HO.out HB.out HG.out (HO.out.1 g rfl)
  exact ⟨_, rfl, Kd.R_mono pR (fun _ h => .inl h), pB, pK⟩
def bsoncore_AppendDocumentEnd.f (l0 : List Int) (a1 : Int) : Option (List Int × Option (Int × ByteArray)) := if (wrap64 (a1)) > (wrap64 ((l0.length : Int) - 4)) then ((errors_New.f (⟨#[110, 111, 116, 32, 101, 110, 111, 117, 103, 104, 32, 98, 121, 116, 101, 115, 32, 97, 118, 97, 105, 108, 97, 98, 108, 101, 32, 97, 102, 116, 101, 114, 32, 105, 110, 100, 101, 120, 32, 116, 111, 32, 119, 114, 105, 116, 101, 32, 108, 101, 110, 103, 116, 104]⟩ : ByteArray)).bind fun t361 => (some (l0, t361))) else (if l0.length < 140737488355328 then ((some (l0 ++ [0] : List Int)).bind fun y362 => (if 0 ≤ a1 then (if a1 ≤ (y362.length : Int) then ((bsoncore_UpdateLength.f y362 a1 (wrap32 (((y362.drop (a1 : Int).toNat).length : Int)))).bind fun t369 => (some (t369, none))) else (none)) else (none))) else (none))
theorem bsoncore_AppendDocumentEnd.calls (ρ : Nat → Addr) (P0_ : Nat → Prop) (u9000_ : Value) (l0 : List Int) (a1 : Int) (r1 : List Int) (r2 : Option (Int × ByteArray)) (w0 w : World) (hB : Below w0.heap.size w0 w) (ho0 : Kd.R (Kd.int .u8) 5 w w0.heap.size P0_ u9000_ l0) (h : bsoncore_AppendDocumentEnd.f l0 a1 = some (r1, r2)) :
    Calls Tryz.prog 112 #[u9000_, .int .i32 a1] w fun e w' => ∃ v0_ v1_ : Value, e = .returned (.tuple #[v0_, v1_]) ∧ Er.ErrR ρ v1_ r2 ∧ Kd.R (Kd.int .u8) 5 w' w0.heap.size (fun k_ => (P0_ k_ ∨ w.heap.size ≤ k_)) v0_ r1 ∧ Below w0.heap.size w0 w' ∧ Kept w w' (fun k_ => P0_ k_) := by
  have HO0 := Aside0.mk (show Kd.R (Kd.int .u8) 5 w w0.heap.size (fun k_ => (P0_ k_ ∨ w.heap.size ≤ k_)) u9000_ l0 from Kd.R_mono ho0 (fun k_ hk => (.inl hk))); have HK := Aside0.mk (Kept.refl w (fun k_ => P0_ k_)); have HW0 := Aside0.mk hB.size; have HB := Aside0.mk hB; clear hB
  have H : (if (wrap64 (a1)) > (wrap64 ((l0.length : Int) - 4)) then ((errors_New.f (⟨#[110, 111, 116, 32, 101, 110, 111, 117, 103, 104, 32, 98, 121, 116, 101, 115, 32, 97, 118, 97, 105, 108, 97, 98, 108, 101, 32, 97, 102, 116, 101, 114, 32, 105, 110, 100, 101, 120, 32, 116, 111, 32, 119, 114, 105, 116, 101, 32, 108, 101, 110, 103, 116, 104]⟩ : ByteArray)).bind fun t361 => (some (l0, t361))) else (if l0.length < 140737488355328 then ((some (l0 ++ [0] : List Int)).bind fun y362 => (if 0 ≤ a1 then (if a1 ≤ (y362.length : Int) then ((bsoncore_UpdateLength.f y362 a1 (wrap32 (((y362.drop (a1 : Int).toNat).length : Int)))).bind fun t369 => (some (t369, none))) else (none)) else (none))) else (none))) = some (r1, r2) := h
  clear h
  by_cases c3 : (wrap64 (a1)) > (wrap64 ((l0.length : Int) - 4))
  · rw [if_pos c3] at H
    have c3b0 : decide ((wrap64 ((l0.length : Int) - 4)) < (wrap64 (a1))) = true := decide_eq_true c3; clear c3; replace H := Option.bind_eq_some_iff.mp H; obtain ⟨t361, A40, H⟩ := H; replace H : (some (l0, t361)) = some (r1, r2) := H; have A4 := Aside0.mk A40; clear A40
    as_aux_lemma =>
      simp only [Option.some.injEq, Prod.mk.injEq] at H
      obtain ⟨rfl, rfl⟩ := H; obtain ⟨Ao5, co5, eo5⟩ := Kd.R_slice HO0.out; subst eo5
      go_enter Tryz.func112, Tryz.ntmps112
      go_wp2_with (first | ((with_reducible refine gate_callee (f := 153) rfl ?_); refine HW.gz (some 13) rfl rfl Tryz.func153 (by kernel_rfl) rfl #[.string (⟨#[110, 111, 116, 32, 101, 110, 111, 117, 103, 104, 32, 98, 121, 116, 101, 115, 32, 97, 118, 97, 105, 108, 97, 98, 108, 101, 32, 97, 102, 116, 101, 114, 32, 105, 110, 100, 101, 120, 32, 116, 111, 32, 119, 114, 105, 116, 101, 32, 108, 101, 110, 103, 116, 104]⟩ : ByteArray)] rfl ?_; (with_reducible refine (errors_New.calls ρ (⟨#[110, 111, 116, 32, 101, 110, 111, 117, 103, 104, 32, 98, 121, 116, 101, 115, 32, 97, 118, 97, 105, 108, 97, 98, 108, 101, 32, 97, 102, 116, 101, 114, 32, 105, 110, 100, 101, 120, 32, 116, 111, 32, 119, 114, 105, 116, 101, 32, 108, 101, 110, 103, 116, 104]⟩ : ByteArray) t361 _ A4.out).mono ?_); rintro e w6 ⟨ve_t361, rfl, hE_t361, hb⟩; refine ⟨_, rfl, ?_⟩; replace HO0 := Aside0.mk (Kd.R_below (HW.zR HO0.out) hb); replace HK := Aside0.mk (Kept.below (S := (fun k_ => P0_ k_)) HW.zk hb); replace HB := Aside0.mk (below_step HW.zb hb); (try clear hb); (first | (obtain rfl := Er.ErrR.nil_ hE_t361) | (refine (Er.ErrR.some_ hE_t361 (Aside0.out ?hsE)).elim ?_; (case hsE => with_reducible assumption); rintro T_hE_t361 ⟨X_hE_t361, rfl⟩) | skip); replace hE_t361 := Aside0.mk hE_t361))
      go_ret2
      exact ⟨_, _, rfl, (by first | exact Er.ErrR.nil | (refine Aside0.out ?_; first | with_reducible assumption | assumption) | exact Er.ErrR.val _ | exact Er.ErrR.mal _ | exact Er.ErrR.dep _ _ | (refine Er.ErrR.few _ _ ?_ ?_ <;> first | exact ⟨_, _, _, rfl⟩ | (refine Er.isl_V (Aside0.out ?_); with_reducible assumption)) | (refine Er.ErrR.sent _ _ ?_ ?_ <;> decide)), HW.zR HO0.out, HW.zb, HW.zk⟩
  rw [if_neg c3] at H; have c3b0 : decide ((wrap64 ((l0.length : Int) - 4)) < (wrap64 (a1))) = false := decide_eq_false c3; clear c3
  by_cases c7 : l0.length < 140737488355328
  rotate_left
  · rw [if_neg c7] at H
    exact absurd H (by simp)
  rw [if_pos c7] at H; have LMc7 := Aside0.mk c7; clear c7; obtain ⟨y362, hy362⟩ : ∃ y_ : List Int, y_ = (l0 ++ [0]) := ⟨_, rfl⟩
  replace H : (if 0 ≤ a1 then (if a1 ≤ (y362.length : Int) then ((bsoncore_UpdateLength.f y362 a1 (wrap32 (((y362.drop (a1 : Int).toNat).length : Int)))).bind fun t369 => (some (t369, none))) else (none)) else (none)) = some (r1, r2) := by (try rw [hy362]); exact HW.rp
  have Ny362 := Aside0.mk hy362; clear hy362
  by_cases c8 : 0 ≤ a1
  rotate_left
  · rw [if_neg c8] at H
    exact absurd H (by simp)
  rw [if_pos c8] at H; have c8b0 := eq_true c8; have c8b1 : decide (0 ≤ a1) = true := decide_eq_true c8; clear c8
  by_cases c9 : a1 ≤ (y362.length : Int)
  rotate_left
  · rw [if_neg c9] at H
    exact absurd H (by simp)
  rw [if_pos c9] at H; have c9b0 := eq_true c9; have c9b1 : decide (a1 ≤ (y362.length : Int)) = true := decide_eq_true c9; clear c9; obtain ⟨y365, hy365⟩ : ∃ y_ : List Int, y_ = (y362.drop (a1 : Int).toNat) := ⟨_, rfl⟩
  replace H : ((bsoncore_UpdateLength.f y362 a1 (wrap32 ((y365.length : Int)))).bind fun t369 => (some (t369, none))) = some (r1, r2) := by (try rw [hy365]); exact HW.rp
  have Ny365 := Aside0.mk hy365; clear hy365; replace H := Option.bind_eq_some_iff.mp H; obtain ⟨t369, A100, H⟩ := H; replace H : (some (t369, none)) = some (r1, r2) := H; have A10 := Aside0.mk A100; clear A100
  as_aux_lemma =>
    simp only [Option.some.injEq, Prod.mk.injEq] at H
    obtain ⟨rfl, rfl⟩ := H; obtain ⟨Ao11, co11, eo11⟩ := Kd.R_slice HO0.out; subst eo11
    go_enter Tryz.func112, Tryz.ntmps112
    go_wp2_with (first | ((with_reducible refine gate_builtin (b := .append) (xs := #[.tmp 14, .tmp 15]) rfl ?_); at_builtin; refine Kd.R_append (Kd.int .u8) (w0 := w0) w0.heap.size rfl (.tmp 14) (.tmp 15) 22 5 (.int .u8 0) 1 rfl Tryz.underlying22 info5 rfl (by decide) (by omega) (.slice Ao11 l0.length co11) l0 0 [.int .u8 0] (fun k_ => (P0_ k_ ∨ w.heap.size ≤ k_)) (fun _ => False) rfl rfl ?aP (fun _ hk => hk.elim) ?aF ?aO ?aB ?aS ?aL ?_; (case aP => exact rfl); (case aB => exact HW.zb); (case aF => exact (fun k_ hk => (.inr (Nat.le_trans (HW.zk1 (w := w) (fun k_ => P0_ k_)) hk)))); (case aO => exact (HW.zR HO0.out)); (case aS => exact (below_size HW.zb)); (case aL => have := LMc7.out; omega); intro v363 w12 ho hb hg hat; rw [← Ny362.out] at ho; have n0_ := Aside0.mk (hb); have n1_ := Aside0.mk (Kept.of_grown (S := (fun k_ => P0_ k_)) hg HW.zk (fun k_ e_ => (HO0.out.1 k_ e_))); have n2_ := Aside0.mk (ho); clear HB; clear HK; clear HO0; have HB := n0_; have HK := n1_; have HO364 := n2_; clear n0_ n1_ n2_; clear ho hb hg hat; obtain ⟨Ao14, co14, eo14⟩ := Kd.R_slice HO364.out; subst eo14; have q13 : (a1 : Int) ≤ ((y362.length : Int) : Int) := HW.od; obtain ⟨i013, hi013, _, hsz13, _⟩ := info_parts info5; have hroom13 : y362.length ≤ co14 := (Kd.R_reads' HO364.out).2.1; have hC13 : Kd.C (Kd.int .u8) _ Ao14 y362.length y362 := (Kd.R_reads' HO364.out).2.2; have q013 : (0 : Int) ≤ (a1 : Int) := HW.od; have hcut13 := cut_from (P := Tryz.prog) 22 5 .i32 Tryz.underlying22 hi013 1 hsz13 Ao14 y362.length co14 a1 q013 q13; have hr13 := Kd.C_drop (m := (a1 : Int).toNat) (c := co14) hC13 (by omega) hroom13; obtain ⟨A13, hA13⟩ : ∃ A1, A1 = (if co14 = (a1 : Int).toNat then Ao14 else (Ao14 : Option Addr).map (·.add ((a1 : Int).toNat * 1))) := ⟨_, rfl⟩; obtain ⟨c13, hc13⟩ : ∃ c1, c1 = co14 - (a1 : Int).toNat := ⟨_, rfl⟩; have hy13 : y365.length = y362.length - (a1 : Int).toNat := (by rw [Ny365.out, List.length_drop] <;> omega); rw [show (y362).drop (a1 : Int).toNat = y365 from Ny365.out.symm] at hr13; replace hr13 : Kd.C (Kd.int .u8) _ A13 y365.length y365 := (by rw [hA13]; exact hr13); rw [← hy13, ← hA13, ← hc13] at hcut13; have HR368 := Aside0.mk hr13; have HC368 := Aside0.mk (show y365.length ≤ c13 from by rw [hy13, hc13]; exact Nat.sub_le_sub_right hroom13 _); clear hr13 hC13 hroom13 hi013 hsz13 hc13; have KY13 := Aside0.mk hy13; have KA13 := Aside0.mk hA13; clear hy13 hA13; have KL13 := Aside0.mk (show (a1 : Int).toNat ≤ y362.length from by omega); replace q13 := eq_true q13) | ((with_reducible refine gate_callee (f := 154) rfl ?_); refine HW.gz (some 24) rfl rfl Tryz.func154 (by kernel_rfl) rfl #[.slice Ao14 y362.length co14, .int .i32 a1, .int .i32 (wrap32 ((y365.length : Int)))] rfl ?_; (with_reducible refine (bsoncore_UpdateLength.calls (fun k_ => some k_ = (.slice Ao14 y362.length co14 : Value).ownBlock) (.slice Ao14 y362.length co14) y362 a1 (wrap32 ((y365.length : Int))) t369 w0 _ ?side1 ?side2 A10.out).mono ?_); (case side1 => exact HW.zb); (case side2 => exact Kd.R_tight rfl HO364.out); rintro e w15 ⟨v370, rfl, ho0, hb, hkp⟩; refine ⟨_, rfl, ?_⟩; have n0_ := Aside0.mk (Kd.R_mono (ok' := fun k_ => (P0_ k_ ∨ w.heap.size ≤ k_)) ho0 (fun k_ hk_ => Or.elim hk_ (fun hs_ => (HO364.out.1 k_ (hs_).symm)) (fun hn_ => (.inr (Nat.le_trans (HW.zk1 (w := w) (fun k_ => P0_ k_)) hn_))))); have n1_ := Aside0.mk (Kept.then_ (S := (fun k_ => P0_ k_)) HW.zk hkp (fun k_ hs_ => (fun e_ => (HO364.out.1 k_ e_.symm)) hs_)); have n2_ := Aside0.mk (hb); clear HK; clear HB; clear HO364; have HO371 := n0_; have HK := n1_; have HB := n2_; clear n0_ n1_ n2_; (try clear hb); (try clear hkp); (try clear ho0)))
    go_ret2
    exact ⟨_, _, rfl, (by first | exact Er.ErrR.nil | (refine Aside0.out ?_; first | with_reducible assumption | assumption) | exact Er.ErrR.val _ | exact Er.ErrR.mal _ | exact Er.ErrR.dep _ _ | (refine Er.ErrR.few _ _ ?_ ?_ <;> first | exact ⟨_, _, _, rfl⟩ | (refine Er.isl_V (Aside0.out ?_); with_reducible assumption)) | (refine Er.ErrR.sent _ _ ?_ ?_ <;> decide)), HW.zR HO371.out, HW.zb, HW.zk⟩
def bsoncore_ReserveLength.f (l0 : List Int) : Option (Int × List Int) := (some (([0, 0, 0, 0] : List Int) : List Int)).bind fun y372 => (if l0.length + y372.length < 140737488355328 then (some (wrap32 ((l0.length : Int)), (l0 ++ y372))) else (none))
theorem bsoncore_ReserveLength.calls (P0_ : Nat → Prop) (u9000_ : Value) (l0 : List Int) (r1 : Int) (r2 : List Int) (w0 w : World) (hB : Below w0.heap.size w0 w) (ho0 : Kd.R (Kd.int .u8) 5 w w0.heap.size P0_ u9000_ l0) (h : bsoncore_ReserveLength.f l0 = some (r1, r2)) :
    Calls Tryz.prog 164 #[u9000_] w fun e w' => ∃ v1_ : Value, e = .returned (.tuple #[.int .i32 r1, v1_]) ∧ Kd.R (Kd.int .u8) 5 w' w0.heap.size (fun k_ => (P0_ k_ ∨ w.heap.size ≤ k_)) v1_ r2 ∧ Below w0.heap.size w0 w' ∧ Kept w w' (fun k_ => P0_ k_) := by
  have HO0 := Aside0.mk (show Kd.R (Kd.int .u8) 5 w w0.heap.size (fun k_ => (P0_ k_ ∨ w.heap.size ≤ k_)) u9000_ l0 from Kd.R_mono ho0 (fun k_ hk => (.inl hk))); have HK := Aside0.mk (Kept.refl w (fun k_ => P0_ k_)); have HW0 := Aside0.mk hB.size; have HB := Aside0.mk hB; clear hB; have H : ((some (([0, 0, 0, 0] : List Int) : List Int)).bind fun y372 => (if l0.length + y372.length < 140737488355328 then (some (wrap32 ((l0.length : Int)), (l0 ++ y372))) else (none))) = some (r1, r2) := h; clear h; obtain ⟨y372, hy372⟩ : ∃ y_ : List Int, y_ = (([0, 0, 0, 0] : List Int)) := ⟨_, rfl⟩
  replace H : (if l0.length + y372.length < 140737488355328 then (some (wrap32 ((l0.length : Int)), (l0 ++ y372))) else (none)) = some (r1, r2) := by (try rw [hy372]); exact HW.rp
  have Ny372 := Aside0.mk hy372; clear hy372
  by_cases c2 : l0.length + y372.length < 140737488355328
  rotate_left
  · rw [if_neg c2] at H
    exact absurd H (by simp)
  rw [if_pos c2] at H; have LMc2 := Aside0.mk c2; clear c2; obtain ⟨y375, hy375⟩ : ∃ y_ : List Int, y_ = (l0 ++ y372) := ⟨_, rfl⟩
  replace H : (some (wrap32 ((l0.length : Int)), y375)) = some (r1, r2) := by (try rw [hy375]); exact HW.rp
  have Ny375 := Aside0.mk hy375; clear hy375
  as_aux_lemma =>
    simp only [Option.some.injEq, Prod.mk.injEq] at H
    obtain ⟨rfl, rfl⟩ := H; obtain ⟨Ao3, co3, eo3⟩ := Kd.R_slice HO0.out; subst eo3
    go_enter Tryz.func164, Tryz.ntmps164
    go_wp2_with (first | ((with_reducible refine gate_dst (N := 10) rfl ?_); refine Kd.R_lit (Kd.int .u8) _ 5 ?hg (N := 10) ?hd (xs := ([0, 0, 0, 0] : List Int)) (inner := [.int .u8 0, .int .u8 0, .int .u8 0, .int .u8 0]) (ok := fun _ => True) (okp := fun _ => True) ?hr ?hp (fun _ hk => hk) trivial (Below.refl _ _) (Nat.le_refl _) (by simp) ?_; (case hd => rfl); (case hg => rfl); (case hr => first | (go_simp; done) | (go_simp; rfl)); (case hp => exact (Reps.one (show Kd.M (Kd.int .u8) _ _ _ 0 [.int .u8 0] from rfl) (Reps.one (show Kd.M (Kd.int .u8) _ _ _ 0 [.int .u8 0] from rfl) (Reps.one (show Kd.M (Kd.int .u8) _ _ _ 0 [.int .u8 0] from rfl) (Reps.one (show Kd.M (Kd.int .u8) _ _ _ 0 [.int .u8 0] from rfl) (Reps.none _ _)))))); intro v373 w4 ho5 hb hg_ hnew_; clear hg_ hnew_; (first | rw [← Ny372.out] at ho5 | (simp only [Int.reduceToNat] at ho5; rw [← Ny372.out] at ho5)); have HO374 := Aside0.mk (Kd.R_lower (Kd.R_new' (Kd.R_newM (M := fun k_ => (P0_ k_ ∨ w.heap.size ≤ k_)) ho5 (HW.zk1 (w := w) (fun k_ => P0_ k_)) (fun k_ h_ => .inr h_)) (Kd.R_lt (HW.zR HO0.out))) (below_size HW.zb)); replace HO0 := Aside0.mk (Kd.R_elder' (HW.zR HO0.out) (Kd.R_base ho5) hb); replace HK := Aside0.mk (Kept.below (S := (fun k_ => P0_ k_)) HW.zk hb); replace HB := Aside0.mk (below_step HW.zb hb); clear hb ho5; obtain ⟨Ao7, co7, eo7⟩ := Kd.R_slice HO374.out; subst eo7) | ((with_reducible refine gate_builtin (b := .append) (xs := #[.tmp 9, .tmp 10]) rfl ?_); at_builtin; refine Kd.R_append_rows (Kd.int .u8) (w0 := w0) w0.heap.size rfl (.tmp 9) (.tmp 10) 22 5 (.int .u8 0) 1 rfl Tryz.underlying22 info5 rfl (by decide) (by omega) (.slice Ao3 l0.length co3) l0 y372 _ _ _ (fun k_ => (P0_ k_ ∨ w.heap.size ≤ k_) ∧ some k_ ≠ (.slice Ao7 y372.length co7 : Value).ownBlock) (fun _ => False) rfl rfl ?aO ?aR (fun _ _ h => h) (fun _ h => h.elim) ?aF ?aB ?aS ?aL ?_; (case aR => repeat (first | exact (Kd.R_reads' HO374.out).2.2 | (with_reducible refine Kd.C_alloc ?_ _) | (with_reducible refine Kd.C_drewN ?_ _) | (with_reducible refine Kd.C_drew ?_))); (case aB => exact HW.zb); (case aF => exact (fun k_ hk => ⟨(.inr (Nat.le_trans (HW.zk1 (w := w) (fun k_ => P0_ k_)) hk)), Kd.fresh' (Kd.R_lt (HW.zR HO374.out)) k_ hk⟩)); (case aO => exact (HW.zR HO0.out)); (case aS => exact (below_size HW.zb)); (case aL => have := LMc2.out; omega); intro v376 w6 ho hb hg hat; rw [← Ny375.out] at ho; have n1_ := Aside0.mk (hb); have n2_ := Aside0.mk (Kept.of_grown (S := (fun k_ => P0_ k_)) hg HW.zk (fun k_ e_ => (HO0.out.1 k_ e_).1)); have n3_ := Aside0.mk (ho); clear HB; clear HK; clear HO0; have HB := n1_; have HK := n2_; have HO377 := n3_; clear n1_ n2_ n3_; clear ho hb hg hat))
    go_ret2
    exact ⟨_, rfl, by (with_reducible repeat (first | apply Kd.R_alloc | apply Kd.R_drewN | apply Kd.R_drew)); exact Kd.R_mono HO377.out (fun _ hk => hk.1), HW.zb, HW.zk⟩
def bsoncore_AppendDocumentStart.f (l0 : List Int) : Option (Int × List Int) := (bsoncore_ReserveLength.f l0).bind fun bt378 => (some (bt378.1, bt378.2))
theorem bsoncore_AppendDocumentStart.calls (P0_ : Nat → Prop) (u9000_ : Value) (l0 : List Int) (r1 : Int) (r2 : List Int) (w0 w : World) (hB : Below w0.heap.size w0 w) (ho0 : Kd.R (Kd.int .u8) 5 w w0.heap.size P0_ u9000_ l0) (h : bsoncore_AppendDocumentStart.f l0 = some (r1, r2)) :
    Calls Tryz.prog 128 #[u9000_] w fun e w' => ∃ v1_ : Value, e = .returned (.tuple #[.int .i32 r1, v1_]) ∧ Kd.R (Kd.int .u8) 5 w' w0.heap.size (fun k_ => (P0_ k_ ∨ w.heap.size ≤ k_)) v1_ r2 ∧ Below w0.heap.size w0 w' ∧ Kept w w' (fun k_ => P0_ k_) := by
  have HO0 := Aside0.mk (show Kd.R (Kd.int .u8) 5 w w0.heap.size (fun k_ => (P0_ k_ ∨ w.heap.size ≤ k_)) u9000_ l0 from Kd.R_mono ho0 (fun k_ hk => (.inl hk))); have HK := Aside0.mk (Kept.refl w (fun k_ => P0_ k_)); have HW0 := Aside0.mk hB.size; have HB := Aside0.mk hB; clear hB; have H : ((bsoncore_ReserveLength.f l0).bind fun bt378 => (some (bt378.1, bt378.2))) = some (r1, r2) := h; clear h; replace H := Option.bind_eq_some_iff.mp H; obtain ⟨⟨t378, t379⟩, A20, H⟩ := H; replace H : (some (t378, t379)) = some (r1, r2) := H; have A2 := Aside0.mk A20; clear A20
  as_aux_lemma =>
    simp only [Option.some.injEq, Prod.mk.injEq] at H
    obtain ⟨rfl, rfl⟩ := H; obtain ⟨Ao3, co3, eo3⟩ := Kd.R_slice HO0.out; subst eo3
    go_enter Tryz.func128, Tryz.ntmps128
    go_wp2_with (first | ((with_reducible refine gate_callee (f := 164) rfl ?_); refine HW.gz (some 5) rfl rfl Tryz.func164 (by kernel_rfl) rfl #[.slice Ao3 l0.length co3] rfl ?_; (with_reducible refine (bsoncore_ReserveLength.calls (fun k_ => some k_ = (.slice Ao3 l0.length co3 : Value).ownBlock) (.slice Ao3 l0.length co3) l0 t378 t379 w0 _ ?side1 ?side2 A2.out).mono ?_); (case side1 => exact HW.zb); (case side2 => exact Kd.R_tight rfl HO0.out); rintro e w4 ⟨v380, rfl, ho0, hb, hkp⟩; refine ⟨_, rfl, ?_⟩; have n0_ := Aside0.mk (Kd.R_mono (ok' := fun k_ => (P0_ k_ ∨ w.heap.size ≤ k_)) ho0 (fun k_ hk_ => Or.elim hk_ (fun hs_ => (HO0.out.1 k_ (hs_).symm)) (fun hn_ => (.inr (Nat.le_trans (HW.zk1 (w := w) (fun k_ => P0_ k_)) hn_))))); have n1_ := Aside0.mk (Kept.then_ (S := (fun k_ => P0_ k_)) HW.zk hkp (fun k_ hs_ => (fun e_ => (HO0.out.1 k_ e_.symm)) hs_)); have n2_ := Aside0.mk (hb); clear HK; clear HB; clear HO0; have HO381 := n0_; have HK := n1_; have HB := n2_; clear n0_ n1_ n2_; (try clear hb); (try clear hkp); (try clear ho0)))
    go_ret2
    exact ⟨_, rfl, HW.zR HO381.out, HW.zb, HW.zk⟩
def plainText (s : ByteArray) : Bool := (List.range s.size).all fun j => s.get! j != 0
theorem plainText_true {s : ByteArray} : plainText s = true ↔ ∀ j, j < s.size → s.get! j ≠ 0 := by
  simp [plainText]
def bsoncore_isValidCString.f (a0 : ByteArray) : Option (Bool) := some (plainText a0)
def SearchPost (s : ByteArray) (w0 : World) (e : Ending) (w' : World) : Prop := ∃ v : Int, e = .returned (.int .i64 v) ∧ (0 ≤ v ↔ plainText s = false) ∧ Below w0.heap.size w0 w'
theorem zzIndexRune_zero (s : ByteArray) (w : World) :
    Calls Tryz.prog 218 #[.string s, .int .i32 0] w (SearchPost s w) := by
  go_enter Tryz.func218, Tryz.ntmps218
  go_wp2
  go_loopw [] (fun w' => ∃ (pos : Nat), w' = w.iter s pos ∧ Aside0 (∀ j, j < pos → j < s.size → s.get! j ≠ 0)) (fun w' => s.size - w'.iterPos w.heap.size)
  case atStart => exact ⟨0, rfl, ⟨fun j hj => absurd hj (Nat.not_lt_zero j)⟩⟩
  case round =>
    obtain ⟨pos, rfl, HA⟩ := hrel
    have hbel : Below w.heap.size w (w.iter s pos) := by
      exact (Below.refl _ _).alloc (Nat.le_refl _) _
    have HBEL := Aside0.mk hbel; clear hbel
    by_cases hp : pos < s.size
    rotate_left
    · have hnx : ∀ ty, (Instr.next (.pointer (some ⟨w.heap.size, 0, none⟩)) true ty).run Tryz.prog (w.iter s pos) = _ := fun ty => run_next_end w s pos ty hp
      have HF : Aside0 (plainText s = true) := ⟨plainText_true.2 (fun j hj => HA.out j (by omega) hj)⟩
      go_wp2
      go_ret
      exact ⟨-1, rfl, ⟨fun h => by omega, fun h => by rw [HF.out] at h; cases h⟩, (Below.refl _ _).alloc (Nat.le_refl _) _⟩
    have hnx : ∀ ty, (Instr.next (.pointer (some ⟨w.heap.size, 0, none⟩)) true ty).run Tryz.prog (w.iter s pos) = _ := fun ty => run_next_any w s pos ty hp; have HD := Aside0.mk (HW.decode_zero s pos hp)
    by_cases hz : s.get! pos = 0
    · have hb : ((((Utf8.decode s pos).1 : Nat) : Int) == 0) = true := beq_iff_eq.2 (by have := HD.out.2.1.2 hz; omega)
      have HF : Aside0 (plainText s = false) := ⟨by
        cases hpt : plainText s with
        | false => rfl
        | true => exact absurd hz (plainText_true.1 hpt pos hp)⟩
      clear hz
      go_wp2
      go_ret
      exact ⟨(pos : Int), rfl, ⟨fun _ => HF.out, fun _ => by omega⟩, (Below.refl _ _).alloc (Nat.le_refl _) _⟩
    have hb : ((((Utf8.decode s pos).1 : Nat) : Int) == 0) = false := beq_eq_false_iff_ne.2 (fun h0 => hz (HD.out.2.1.1 (by omega)))
    have HF : Aside0 (∀ j, j < pos + (Utf8.decode s pos).2 → j < s.size → s.get! j ≠ 0) := ⟨by
      intro j hj hjs
      by_cases hjp : j < pos
      · exact HA.out j hjp hjs
      exact (HD.out.2.2 hz j (by omega) hj).2⟩
    clear hz
    go_wp2
    go_roundw
    case rel => exact ⟨pos + (Utf8.decode s pos).2, rfl, HF⟩
    case measure =>
      have := HD.out.1
      simp
      omega
theorem bsoncore_isValidCString.calls (a0 : ByteArray) (r : Bool) (w : World) (h : bsoncore_isValidCString.f a0 = some r) :
    Calls Tryz.prog 167 #[.string a0] w fun e w' => e = .returned (.bool r) ∧ Below w.heap.size w w' := by
  obtain rfl := Option.some.inj h; clear h
  cases hpt : plainText a0 with
  | true =>
    have HP := Aside0.mk hpt; clear hpt
    go_enter Tryz.func167, Tryz.ntmps167
    go_wp2_with (first | (go_at_call 218; refine (zzIndexRune_zero _ _).mono ?_; rintro e w' ⟨v, rfl, hv, hb⟩; have hv2 : decide (0 ≤ v) = false := decide_eq_false (by rw [hv, HP.out]; simp); have HB := Aside0.mk hb; clear hv hb) | go_in)
    go_ret
    exact ⟨rfl, HB.out⟩
  | false =>
    have HP := Aside0.mk hpt; clear hpt
    go_enter Tryz.func167, Tryz.ntmps167
    go_wp2_with (first | (go_at_call 218; refine (zzIndexRune_zero _ _).mono ?_; rintro e w' ⟨v, rfl, hv, hb⟩; have hv2 : decide (0 ≤ v) = true := decide_eq_true (by rw [hv, HP.out]); have HB := Aside0.mk hb; clear hv hb) | go_in)
    go_ret
    exact ⟨rfl, HB.out⟩
def bsoncore_AppendType.f (l0 : List Int) (a1 : Int) : Option (List Int) := if l0.length < 140737488355328 then (some (l0 ++ [a1])) else (none)
theorem bsoncore_AppendType.calls (P0_ : Nat → Prop) (u9000_ : Value) (l0 : List Int) (a1 : Int) (r : List Int) (w0 w : World) (hB : Below w0.heap.size w0 w) (ho0 : Kd.R (Kd.int .u8) 5 w w0.heap.size P0_ u9000_ l0) (h : bsoncore_AppendType.f l0 a1 = some r) :
    Calls Tryz.prog 168 #[u9000_, .int .u8 a1] w fun e w' => ∃ v0_ : Value, e = .returned (v0_) ∧ Kd.R (Kd.int .u8) 5 w' w0.heap.size (fun k_ => (P0_ k_ ∨ w.heap.size ≤ k_)) v0_ r ∧ Below w0.heap.size w0 w' ∧ Kept w w' (fun k_ => P0_ k_) := by
  have HO0 := Aside0.mk (show Kd.R (Kd.int .u8) 5 w w0.heap.size (fun k_ => (P0_ k_ ∨ w.heap.size ≤ k_)) u9000_ l0 from Kd.R_mono ho0 (fun k_ hk => (.inl hk))); have HK := Aside0.mk (Kept.refl w (fun k_ => P0_ k_)); have HW0 := Aside0.mk hB.size; have HB := Aside0.mk hB; clear hB; have H : (if l0.length < 140737488355328 then (some (l0 ++ [a1])) else (none)) = some r := h; clear h
  by_cases c3 : l0.length < 140737488355328
  rotate_left
  · rw [if_neg c3] at H
    exact absurd H (by simp)
  rw [if_pos c3] at H; have LMc3 := Aside0.mk c3; clear c3; obtain ⟨y382, hy382⟩ : ∃ y_ : List Int, y_ = (l0 ++ [a1]) := ⟨_, rfl⟩
  replace H : (some y382) = some r := by (try rw [hy382]); exact HW.rp
  have Ny382 := Aside0.mk hy382; clear hy382
  as_aux_lemma =>
    obtain rfl := Option.some.inj H
    go_enter Tryz.func168, Tryz.ntmps168
    go_wp2_with (first | ((with_reducible refine gate_builtin (b := .append) (xs := #[.tmp 5, .tmp 7]) rfl ?_); at_builtin; refine Kd.R_append (Kd.int .u8) (w0 := w0) w0.heap.size rfl (.tmp 5) (.tmp 7) 22 5 (.int .u8 0) 1 rfl Tryz.underlying22 info5 rfl (by decide) (by omega) u9000_ l0 a1 [.int .u8 a1] (fun k_ => (P0_ k_ ∨ w.heap.size ≤ k_)) (fun _ => False) rfl rfl ?aP (fun _ hk => hk.elim) ?aF ?aO ?aB ?aS ?aL ?_; (case aP => exact rfl); (case aB => exact HW.zb); (case aF => exact (fun k_ hk => (.inr (Nat.le_trans (HW.zk1 (w := w) (fun k_ => P0_ k_)) hk)))); (case aO => exact (HW.zR HO0.out)); (case aS => exact (below_size HW.zb)); (case aL => have := LMc3.out; omega); intro v383 w4 ho hb hg hat; rw [← Ny382.out] at ho; have n0_ := Aside0.mk (hb); have n1_ := Aside0.mk (Kept.of_grown (S := (fun k_ => P0_ k_)) hg HW.zk (fun k_ e_ => (HO0.out.1 k_ e_))); have n2_ := Aside0.mk (ho); clear HB; clear HK; clear HO0; have HB := n0_; have HK := n1_; have HO384 := n2_; clear n0_ n1_ n2_; clear ho hb hg hat))
    go_ret
    exact ⟨_, rfl, HW.zR HO384.out, HW.zb, HW.zk⟩
def bsoncore_AppendHeader.f (l0 : List Int) (a1 : Int) (a2 : ByteArray) : Option (List Int) := (bsoncore_isValidCString.f a2).bind fun t385 => (if t385 = true then ((bsoncore_AppendType.f l0 a1).bind fun t386 => (if t386.length + a2.size < 140737488355328 then ((some (t386 ++ bytesOf a2 : List Int)).bind fun y389 => (if y389.length < 140737488355328 then (some (y389 ++ [0])) else (none))) else (none))) else (none))
theorem bsoncore_AppendHeader.calls (P0_ : Nat → Prop) (u9000_ : Value) (l0 : List Int) (a1 : Int) (a2 : ByteArray) (r : List Int) (w0 w : World) (hB : Below w0.heap.size w0 w) (ho0 : Kd.R (Kd.int .u8) 5 w w0.heap.size P0_ u9000_ l0) (h : bsoncore_AppendHeader.f l0 a1 a2 = some r) :
    Calls Tryz.prog 131 #[u9000_, .int .u8 a1, .string a2] w fun e w' => ∃ v0_ : Value, e = .returned (v0_) ∧ Kd.R (Kd.int .u8) 5 w' w0.heap.size (fun k_ => (P0_ k_ ∨ w.heap.size ≤ k_)) v0_ r ∧ Below w0.heap.size w0 w' ∧ Kept w w' (fun k_ => P0_ k_) := by
  have HO0 := Aside0.mk (show Kd.R (Kd.int .u8) 5 w w0.heap.size (fun k_ => (P0_ k_ ∨ w.heap.size ≤ k_)) u9000_ l0 from Kd.R_mono ho0 (fun k_ hk => (.inl hk))); have HK := Aside0.mk (Kept.refl w (fun k_ => P0_ k_)); have HW0 := Aside0.mk hB.size; have HB := Aside0.mk hB; clear hB; have H : ((bsoncore_isValidCString.f a2).bind fun t385 => (if t385 = true then ((bsoncore_AppendType.f l0 a1).bind fun t386 => (if t386.length + a2.size < 140737488355328 then ((some (t386 ++ bytesOf a2 : List Int)).bind fun y389 => (if y389.length < 140737488355328 then (some (y389 ++ [0])) else (none))) else (none))) else (none))) = some r := h; clear h; replace H := Option.bind_eq_some_iff.mp H; obtain ⟨t385, A40, H⟩ := H; replace H : (if t385 = true then ((bsoncore_AppendType.f l0 a1).bind fun t386 => (if t386.length + a2.size < 140737488355328 then ((some (t386 ++ bytesOf a2 : List Int)).bind fun y389 => (if y389.length < 140737488355328 then (some (y389 ++ [0])) else (none))) else (none))) else (none)) = some r := H; have A4 := Aside0.mk A40; clear A40
  by_cases c5 : t385 = true
  rotate_left
  · replace c5 := Bool.eq_false_iff.mpr c5
    subst c5
    have H1 : (none) = some r := by rw [if_neg (show ¬ (false = true) by decide)] at H; exact H
    clear H; have H := H1; clear H1
    exact absurd H (by simp)
  subst c5
  have H1 : ((bsoncore_AppendType.f l0 a1).bind fun t386 => (if t386.length + a2.size < 140737488355328 then ((some (t386 ++ bytesOf a2 : List Int)).bind fun y389 => (if y389.length < 140737488355328 then (some (y389 ++ [0])) else (none))) else (none))) = some r := by rw [if_pos rfl] at H; exact H
  clear H; have H := H1; clear H1; replace H := Option.bind_eq_some_iff.mp H; obtain ⟨t386, A60, H⟩ := H; replace H : (if t386.length + a2.size < 140737488355328 then ((some (t386 ++ bytesOf a2 : List Int)).bind fun y389 => (if y389.length < 140737488355328 then (some (y389 ++ [0])) else (none))) else (none)) = some r := H; have A6 := Aside0.mk A60; clear A60
  by_cases c7 : t386.length + a2.size < 140737488355328
  rotate_left
  · rw [if_neg c7] at H
    exact absurd H (by simp)
  rw [if_pos c7] at H; have LMc7 := Aside0.mk c7; clear c7; obtain ⟨y389, hy389⟩ : ∃ y_ : List Int, y_ = (t386 ++ bytesOf a2) := ⟨_, rfl⟩
  replace H : (if y389.length < 140737488355328 then (some (y389 ++ [0])) else (none)) = some r := by (try rw [hy389]); exact HW.rp
  have Ny389 := Aside0.mk hy389; clear hy389
  by_cases c8 : y389.length < 140737488355328
  rotate_left
  · rw [if_neg c8] at H
    exact absurd H (by simp)
  rw [if_pos c8] at H; have LMc8 := Aside0.mk c8; clear c8; obtain ⟨y392, hy392⟩ : ∃ y_ : List Int, y_ = (y389 ++ [0]) := ⟨_, rfl⟩
  replace H : (some y392) = some r := by (try rw [hy392]); exact HW.rp
  have Ny392 := Aside0.mk hy392; clear hy392
  as_aux_lemma =>
    obtain rfl := Option.some.inj H
    go_enter Tryz.func131, Tryz.ntmps131
    go_wp2_with (first | ((with_reducible refine gate_callee (f := 167) rfl ?_); refine HW.gz (some 8) rfl rfl Tryz.func167 (by kernel_rfl) rfl #[.string a2] rfl ?_; (with_reducible refine (bsoncore_isValidCString.calls a2 true _ A4.out).mono ?_); rintro e w9 ⟨rfl, hb⟩; refine ⟨_, rfl, ?_⟩; replace HO0 := Aside0.mk (Kd.R_below (HW.zR HO0.out) hb); replace HK := Aside0.mk (Kept.below (S := (fun k_ => P0_ k_)) HW.zk hb); replace HB := Aside0.mk (below_step HW.zb hb); (try clear hb); obtain ⟨Ao10, co10, eo10⟩ := Kd.R_slice HO0.out; subst eo10) | ((with_reducible refine gate_callee (f := 168) rfl ?_); refine HW.gz (some 13) rfl rfl Tryz.func168 (by kernel_rfl) rfl #[.slice Ao10 l0.length co10, .int .u8 a1] rfl ?_; (with_reducible refine (bsoncore_AppendType.calls (fun k_ => some k_ = (.slice Ao10 l0.length co10 : Value).ownBlock) (.slice Ao10 l0.length co10) l0 a1 t386 w0 _ ?side1 ?side2 A6.out).mono ?_); (case side1 => exact HW.zb); (case side2 => exact Kd.R_tight rfl HO0.out); rintro e w11 ⟨v387, rfl, ho0, hb, hkp⟩; refine ⟨_, rfl, ?_⟩; have n0_ := Aside0.mk (Kd.R_mono (ok' := fun k_ => (P0_ k_ ∨ w.heap.size ≤ k_)) ho0 (fun k_ hk_ => Or.elim hk_ (fun hs_ => (HO0.out.1 k_ (hs_).symm)) (fun hn_ => (.inr (Nat.le_trans (HW.zk1 (w := w) (fun k_ => P0_ k_)) hn_))))); have n1_ := Aside0.mk (Kept.then_ (S := (fun k_ => P0_ k_)) HW.zk hkp (fun k_ hs_ => (fun e_ => (HO0.out.1 k_ e_.symm)) hs_)); have n2_ := Aside0.mk (hb); clear HK; clear HB; clear HO0; have HO388 := n0_; have HK := n1_; have HB := n2_; clear n0_ n1_ n2_; (try clear hb); (try clear hkp); (try clear ho0)) | (at_builtin; refine HW.R_append_str (w0 := w0) w0.heap.size rfl (.tmp 14) _ 22 9 5 rfl Tryz.underlying22 Tryz.underlying9 info5 v387 t386 a2 (fun k_ => (P0_ k_ ∨ w.heap.size ≤ k_)) rfl rfl ?aO ?aF ?aB ?aS ?aL ?_; (case aB => exact HW.zb); (case aF => exact (fun k_ hk => (.inr (Nat.le_trans (HW.zk1 (w := w) (fun k_ => P0_ k_)) hk)))); (case aO => exact (HW.zR HO388.out)); (case aS => exact (below_size HW.zb)); (case aL => have := LMc7.out; omega); intro v390 w12 ho hb hg hat; rw [← Ny389.out] at ho; have n0_ := Aside0.mk (hb); have n1_ := Aside0.mk (Kept.of_grown (S := (fun k_ => P0_ k_)) hg HW.zk (fun k_ e_ => (HO388.out.1 k_ e_))); have n2_ := Aside0.mk (ho); clear HB; clear HK; clear HO388; have HB := n0_; have HK := n1_; have HO391 := n2_; clear n0_ n1_ n2_; clear ho hb hg hat) | ((with_reducible refine gate_builtin (b := .append) (xs := #[.tmp 17, .tmp 18]) rfl ?_); at_builtin; refine Kd.R_append (Kd.int .u8) (w0 := w0) w0.heap.size rfl (.tmp 17) (.tmp 18) 22 5 (.int .u8 0) 1 rfl Tryz.underlying22 info5 rfl (by decide) (by omega) v390 y389 0 [.int .u8 0] (fun k_ => (P0_ k_ ∨ w.heap.size ≤ k_)) (fun _ => False) rfl rfl ?aP (fun _ hk => hk.elim) ?aF ?aO ?aB ?aS ?aL ?_; (case aP => exact rfl); (case aB => exact HW.zb); (case aF => exact (fun k_ hk => (.inr (Nat.le_trans (HW.zk1 (w := w) (fun k_ => P0_ k_)) hk)))); (case aO => exact (HW.zR HO391.out)); (case aS => exact (below_size HW.zb)); (case aL => have := LMc8.out; omega); intro v393 w13 ho hb hg hat; rw [← Ny392.out] at ho; have n0_ := Aside0.mk (hb); have n1_ := Aside0.mk (Kept.of_grown (S := (fun k_ => P0_ k_)) hg HW.zk (fun k_ e_ => (HO391.out.1 k_ e_))); have n2_ := Aside0.mk (ho); clear HB; clear HK; clear HO391; have HB := n0_; have HK := n1_; have HO394 := n2_; clear n0_ n1_ n2_; clear ho hb hg hat))
    go_ret
    exact ⟨_, rfl, HW.zR HO394.out, HW.zb, HW.zk⟩
def binaryutil_Append32_int32.f (l0 : List Int) (a1 : Int) : Option (List Int) := (some (([(a1) % 256, (a1 / 256) % 256, (a1 / 65536) % 256, (a1 / 16777216) % 256] : List Int) : List Int)).bind fun y395 => (if l0.length + y395.length < 140737488355328 then (some (l0 ++ y395)) else (none))
theorem binaryutil_Append32_int32.calls (P0_ : Nat → Prop) (u9000_ : Value) (l0 : List Int) (a1 : Int) (r : List Int) (w0 w : World) (hB : Below w0.heap.size w0 w) (ho0 : Kd.R (Kd.int .u8) 5 w w0.heap.size P0_ u9000_ l0) (h : binaryutil_Append32_int32.f l0 a1 = some r) :
    Calls Tryz.prog 216 #[u9000_, .int .i32 a1] w fun e w' => ∃ v0_ : Value, e = .returned (v0_) ∧ Kd.R (Kd.int .u8) 5 w' w0.heap.size (fun k_ => (P0_ k_ ∨ w.heap.size ≤ k_)) v0_ r ∧ Below w0.heap.size w0 w' ∧ Kept w w' (fun k_ => P0_ k_) := by
  have HO0 := Aside0.mk (show Kd.R (Kd.int .u8) 5 w w0.heap.size (fun k_ => (P0_ k_ ∨ w.heap.size ≤ k_)) u9000_ l0 from Kd.R_mono ho0 (fun k_ hk => (.inl hk))); have HK := Aside0.mk (Kept.refl w (fun k_ => P0_ k_)); have HW0 := Aside0.mk hB.size; have HB := Aside0.mk hB; clear hB; have H : ((some (([(a1) % 256, (a1 / 256) % 256, (a1 / 65536) % 256, (a1 / 16777216) % 256] : List Int) : List Int)).bind fun y395 => (if l0.length + y395.length < 140737488355328 then (some (l0 ++ y395)) else (none))) = some r := h; clear h; obtain ⟨y395, hy395⟩ : ∃ y_ : List Int, y_ = (([(a1) % 256, (a1 / 256) % 256, (a1 / 65536) % 256, (a1 / 16777216) % 256] : List Int)) := ⟨_, rfl⟩
  replace H : (if l0.length + y395.length < 140737488355328 then (some (l0 ++ y395)) else (none)) = some r := by (try rw [hy395]); exact HW.rp
  have Ny395 := Aside0.mk hy395; clear hy395
  by_cases c3 : l0.length + y395.length < 140737488355328
  rotate_left
  · rw [if_neg c3] at H
    exact absurd H (by simp)
  rw [if_pos c3] at H; have LMc3 := Aside0.mk c3; clear c3; obtain ⟨y398, hy398⟩ : ∃ y_ : List Int, y_ = (l0 ++ y395) := ⟨_, rfl⟩
  replace H : (some y398) = some r := by (try rw [hy398]); exact HW.rp
  have Ny398 := Aside0.mk hy398; clear hy398
  as_aux_lemma =>
    obtain rfl := Option.some.inj H
    go_enter Tryz.func216, Tryz.ntmps216
    go_wp2_with (first | ((with_reducible refine gate_dst (N := 17) rfl ?_); refine Kd.R_lit (Kd.int .u8) _ 5 ?hg (N := 17) ?hd (xs := ([(a1) % 256, (a1 / 256) % 256, (a1 / 65536) % 256, (a1 / 16777216) % 256] : List Int)) (inner := [.int .u8 ((a1) % 256), .int .u8 ((a1 / 256) % 256), .int .u8 ((a1 / 65536) % 256), .int .u8 ((a1 / 16777216) % 256)]) (ok := fun _ => True) (okp := fun _ => True) ?hr ?hp (fun _ hk => hk) trivial (Below.refl _ _) (Nat.le_refl _) (by simp) ?_; (case hd => rfl); (case hg => rfl); (case hr => first | (go_simp; done) | (go_simp; rfl)); (case hp => exact (Reps.one (show Kd.M (Kd.int .u8) _ _ _ ((a1) % 256) [.int .u8 ((a1) % 256)] from rfl) (Reps.one (show Kd.M (Kd.int .u8) _ _ _ ((a1 / 256) % 256) [.int .u8 ((a1 / 256) % 256)] from rfl) (Reps.one (show Kd.M (Kd.int .u8) _ _ _ ((a1 / 65536) % 256) [.int .u8 ((a1 / 65536) % 256)] from rfl) (Reps.one (show Kd.M (Kd.int .u8) _ _ _ ((a1 / 16777216) % 256) [.int .u8 ((a1 / 16777216) % 256)] from rfl) (Reps.none _ _)))))); intro v396 w4 ho5 hb hg_ hnew_; clear hg_ hnew_; (first | rw [← Ny395.out] at ho5 | (simp only [Int.reduceToNat] at ho5; rw [← Ny395.out] at ho5)); have HO397 := Aside0.mk (Kd.R_lower (Kd.R_new' (Kd.R_newM (M := fun k_ => (P0_ k_ ∨ w.heap.size ≤ k_)) ho5 (HW.zk1 (w := w) (fun k_ => P0_ k_)) (fun k_ h_ => .inr h_)) (Kd.R_lt (HW.zR HO0.out))) (below_size HW.zb)); replace HO0 := Aside0.mk (Kd.R_elder' (HW.zR HO0.out) (Kd.R_base ho5) hb); replace HK := Aside0.mk (Kept.below (S := (fun k_ => P0_ k_)) HW.zk hb); replace HB := Aside0.mk (below_step HW.zb hb); clear hb ho5; obtain ⟨Ao7, co7, eo7⟩ := Kd.R_slice HO397.out; subst eo7) | ((with_reducible refine gate_builtin (b := .append) (xs := #[.tmp 5, .tmp 17]) rfl ?_); at_builtin; refine Kd.R_append_rows (Kd.int .u8) (w0 := w0) w0.heap.size rfl (.tmp 5) (.tmp 17) 22 5 (.int .u8 0) 1 rfl Tryz.underlying22 info5 rfl (by decide) (by omega) u9000_ l0 y395 _ _ _ (fun k_ => (P0_ k_ ∨ w.heap.size ≤ k_) ∧ some k_ ≠ (.slice Ao7 y395.length co7 : Value).ownBlock) (fun _ => False) rfl rfl ?aO ?aR (fun _ _ h => h) (fun _ h => h.elim) ?aF ?aB ?aS ?aL ?_; (case aR => repeat (first | exact (Kd.R_reads' HO397.out).2.2 | (with_reducible refine Kd.C_alloc ?_ _) | (with_reducible refine Kd.C_drewN ?_ _) | (with_reducible refine Kd.C_drew ?_))); (case aB => exact HW.zb); (case aF => exact (fun k_ hk => ⟨(.inr (Nat.le_trans (HW.zk1 (w := w) (fun k_ => P0_ k_)) hk)), Kd.fresh' (Kd.R_lt (HW.zR HO397.out)) k_ hk⟩)); (case aO => exact (HW.zR HO0.out)); (case aS => exact (below_size HW.zb)); (case aL => have := LMc3.out; omega); intro v399 w6 ho hb hg hat; rw [← Ny398.out] at ho; have n1_ := Aside0.mk (hb); have n2_ := Aside0.mk (Kept.of_grown (S := (fun k_ => P0_ k_)) hg HW.zk (fun k_ e_ => (HO0.out.1 k_ e_).1)); have n3_ := Aside0.mk (ho); clear HB; clear HK; clear HO0; have HB := n1_; have HK := n2_; have HO400 := n3_; clear n1_ n2_ n3_; clear ho hb hg hat))
    go_ret
    exact ⟨_, rfl, by (with_reducible repeat (first | apply Kd.R_alloc | apply Kd.R_drewN | apply Kd.R_drew)); exact Kd.R_mono HO400.out (fun _ hk => hk.1), HW.zb, HW.zk⟩
def bsoncore_AppendInt32.f (l0 : List Int) (a1 : Int) : Option (List Int) := (binaryutil_Append32_int32.f l0 a1).bind fun t401 => (some t401)
theorem bsoncore_AppendInt32.calls (P0_ : Nat → Prop) (u9000_ : Value) (l0 : List Int) (a1 : Int) (r : List Int) (w0 w : World) (hB : Below w0.heap.size w0 w) (ho0 : Kd.R (Kd.int .u8) 5 w w0.heap.size P0_ u9000_ l0) (h : bsoncore_AppendInt32.f l0 a1 = some r) :
    Calls Tryz.prog 202 #[u9000_, .int .i32 a1] w fun e w' => ∃ v0_ : Value, e = .returned (v0_) ∧ Kd.R (Kd.int .u8) 5 w' w0.heap.size (fun k_ => (P0_ k_ ∨ w.heap.size ≤ k_)) v0_ r ∧ Below w0.heap.size w0 w' ∧ Kept w w' (fun k_ => P0_ k_) := by
  have HO0 := Aside0.mk (show Kd.R (Kd.int .u8) 5 w w0.heap.size (fun k_ => (P0_ k_ ∨ w.heap.size ≤ k_)) u9000_ l0 from Kd.R_mono ho0 (fun k_ hk => (.inl hk))); have HK := Aside0.mk (Kept.refl w (fun k_ => P0_ k_)); have HW0 := Aside0.mk hB.size; have HB := Aside0.mk hB; clear hB; have H : ((binaryutil_Append32_int32.f l0 a1).bind fun t401 => (some t401)) = some r := h; clear h; replace H := Option.bind_eq_some_iff.mp H; obtain ⟨t401, A30, H⟩ := H; replace H : (some t401) = some r := H; have A3 := Aside0.mk A30; clear A30
  as_aux_lemma =>
    obtain rfl := Option.some.inj H; obtain ⟨Ao4, co4, eo4⟩ := Kd.R_slice HO0.out; subst eo4
    go_enter Tryz.func202, Tryz.ntmps202
    go_wp2_with (first | ((with_reducible refine gate_callee (f := 216) rfl ?_); refine HW.gz (some 7) rfl rfl Tryz.func216 (by kernel_rfl) rfl #[.slice Ao4 l0.length co4, .int .i32 a1] rfl ?_; (with_reducible refine (binaryutil_Append32_int32.calls (fun k_ => some k_ = (.slice Ao4 l0.length co4 : Value).ownBlock) (.slice Ao4 l0.length co4) l0 a1 t401 w0 _ ?side1 ?side2 A3.out).mono ?_); (case side1 => exact HW.zb); (case side2 => exact Kd.R_tight rfl HO0.out); rintro e w5 ⟨v402, rfl, ho0, hb, hkp⟩; refine ⟨_, rfl, ?_⟩; have n0_ := Aside0.mk (Kd.R_mono (ok' := fun k_ => (P0_ k_ ∨ w.heap.size ≤ k_)) ho0 (fun k_ hk_ => Or.elim hk_ (fun hs_ => (HO0.out.1 k_ (hs_).symm)) (fun hn_ => (.inr (Nat.le_trans (HW.zk1 (w := w) (fun k_ => P0_ k_)) hn_))))); have n1_ := Aside0.mk (Kept.then_ (S := (fun k_ => P0_ k_)) HW.zk hkp (fun k_ hs_ => (fun e_ => (HO0.out.1 k_ e_.symm)) hs_)); have n2_ := Aside0.mk (hb); clear HK; clear HB; clear HO0; have HO403 := n0_; have HK := n1_; have HB := n2_; clear n0_ n1_ n2_; (try clear hb); (try clear hkp); (try clear ho0)))
    go_ret
    exact ⟨_, rfl, HW.zR HO403.out, HW.zb, HW.zk⟩
def bsoncore_AppendInt32Element.f (l0 : List Int) (a1 : ByteArray) (a2 : Int) : Option (List Int) := (bsoncore_AppendHeader.f l0 16 a1).bind fun t404 => ((bsoncore_AppendInt32.f t404 a2).bind fun t407 => (some t407))
theorem bsoncore_AppendInt32Element.calls (P0_ : Nat → Prop) (u9000_ : Value) (l0 : List Int) (a1 : ByteArray) (a2 : Int) (r : List Int) (w0 w : World) (hB : Below w0.heap.size w0 w) (ho0 : Kd.R (Kd.int .u8) 5 w w0.heap.size P0_ u9000_ l0) (h : bsoncore_AppendInt32Element.f l0 a1 a2 = some r) :
    Calls Tryz.prog 147 #[u9000_, .string a1, .int .i32 a2] w fun e w' => ∃ v0_ : Value, e = .returned (v0_) ∧ Kd.R (Kd.int .u8) 5 w' w0.heap.size (fun k_ => (P0_ k_ ∨ w.heap.size ≤ k_)) v0_ r ∧ Below w0.heap.size w0 w' ∧ Kept w w' (fun k_ => P0_ k_) := by
  have HO0 := Aside0.mk (show Kd.R (Kd.int .u8) 5 w w0.heap.size (fun k_ => (P0_ k_ ∨ w.heap.size ≤ k_)) u9000_ l0 from Kd.R_mono ho0 (fun k_ hk => (.inl hk))); have HK := Aside0.mk (Kept.refl w (fun k_ => P0_ k_)); have HW0 := Aside0.mk hB.size; have HB := Aside0.mk hB; clear hB; have H : ((bsoncore_AppendHeader.f l0 16 a1).bind fun t404 => ((bsoncore_AppendInt32.f t404 a2).bind fun t407 => (some t407))) = some r := h; clear h; replace H := Option.bind_eq_some_iff.mp H; obtain ⟨t404, A40, H⟩ := H; replace H : ((bsoncore_AppendInt32.f t404 a2).bind fun t407 => (some t407)) = some r := H; have A4 := Aside0.mk A40; clear A40; replace H := Option.bind_eq_some_iff.mp H; obtain ⟨t407, A50, H⟩ := H; replace H : (some t407) = some r := H; have A5 := Aside0.mk A50; clear A50
  as_aux_lemma =>
    obtain rfl := Option.some.inj H; obtain ⟨Ao6, co6, eo6⟩ := Kd.R_slice HO0.out; subst eo6
    go_enter Tryz.func147, Tryz.ntmps147
    go_wp2_with (first | ((with_reducible refine gate_callee (f := 131) rfl ?_); refine HW.gz (some 9) rfl rfl Tryz.func131 (by kernel_rfl) rfl #[.slice Ao6 l0.length co6, .int .u8 16, .string a1] rfl ?_; (with_reducible refine (bsoncore_AppendHeader.calls (fun k_ => some k_ = (.slice Ao6 l0.length co6 : Value).ownBlock) (.slice Ao6 l0.length co6) l0 16 a1 t404 w0 _ ?side1 ?side2 A4.out).mono ?_); (case side1 => exact HW.zb); (case side2 => exact Kd.R_tight rfl HO0.out); rintro e w7 ⟨v405, rfl, ho0, hb, hkp⟩; refine ⟨_, rfl, ?_⟩; have n0_ := Aside0.mk (Kd.R_mono (ok' := fun k_ => (P0_ k_ ∨ w.heap.size ≤ k_)) ho0 (fun k_ hk_ => Or.elim hk_ (fun hs_ => (HO0.out.1 k_ (hs_).symm)) (fun hn_ => (.inr (Nat.le_trans (HW.zk1 (w := w) (fun k_ => P0_ k_)) hn_))))); have n1_ := Aside0.mk (Kept.then_ (S := (fun k_ => P0_ k_)) HW.zk hkp (fun k_ hs_ => (fun e_ => (HO0.out.1 k_ e_.symm)) hs_)); have n2_ := Aside0.mk (hb); clear HK; clear HB; clear HO0; have HO406 := n0_; have HK := n1_; have HB := n2_; clear n0_ n1_ n2_; (try clear hb); (try clear hkp); (try clear ho0); obtain ⟨Ao8, co8, eo8⟩ := Kd.R_slice HO406.out; subst eo8) | ((with_reducible refine gate_callee (f := 202) rfl ?_); refine HW.gz (some 11) rfl rfl Tryz.func202 (by kernel_rfl) rfl #[.slice Ao8 t404.length co8, .int .i32 a2] rfl ?_; (with_reducible refine (bsoncore_AppendInt32.calls (fun k_ => some k_ = (.slice Ao8 t404.length co8 : Value).ownBlock) (.slice Ao8 t404.length co8) t404 a2 t407 w0 _ ?side1 ?side2 A5.out).mono ?_); (case side1 => exact HW.zb); (case side2 => exact Kd.R_tight rfl HO406.out); rintro e w9 ⟨v408, rfl, ho0, hb, hkp⟩; refine ⟨_, rfl, ?_⟩; have n0_ := Aside0.mk (Kd.R_mono (ok' := fun k_ => (P0_ k_ ∨ w.heap.size ≤ k_)) ho0 (fun k_ hk_ => Or.elim hk_ (fun hs_ => (HO406.out.1 k_ (hs_).symm)) (fun hn_ => (.inr (Nat.le_trans (HW.zk1 (w := w) (fun k_ => P0_ k_)) hn_))))); have n1_ := Aside0.mk (Kept.then_ (S := (fun k_ => P0_ k_)) HW.zk hkp (fun k_ hs_ => (fun e_ => (HO406.out.1 k_ e_.symm)) hs_)); have n2_ := Aside0.mk (hb); clear HK; clear HB; clear HO406; have HO409 := n0_; have HK := n1_; have HB := n2_; clear n0_ n1_ n2_; (try clear hb); (try clear hkp); (try clear ho0)))
    go_ret
    exact ⟨_, rfl, HW.zR HO409.out, HW.zb, HW.zk⟩
theorem info_i32 : (Tryz.prog.info? 21).map (fun i => (i.zero, i.size, i.bytes)) = some (some (.int .i32 0), 1, 4) := by kernel_rfl
structure DB (w0 w : World) (g : Nat) (l ix : List Int) : Prop where
  ex : ∃ v0 v1, w.heap[g]? = some (.cells #[v0, v1] 156 (0, 0)) ∧ Kd.R (Kd.int .u8) 5 w w0.heap.size (fun k => v0.ownBlock = some k) v0 l ∧ Kd.R (Kd.int .i32) 21 w w0.heap.size (fun k => v1.ownBlock = some k) v1 ix
  hg : w0.heap.size ≤ g
  hB : Below w0.heap.size w0 w
theorem own_self {α : Type} {enc : α → Value} {h1 : ∀ x, (enc x).oneCell' = true} {e base : Nat} {w : World} {ok : Nat → Prop} {v : Value} {xs : List α} (h : (Kd.scalar enc h1).R e w base ok v xs) : (Kd.scalar enc h1).R e w base (fun k => v.ownBlock = some k) v xs := Kd.R_of_own (Kd.own_of_R h) (fun _ hk => hk)
theorem own_type {α : Type} {d : Kd α} {e base : Nat} {w : World} {ok : Nat → Prop} {v : Value} {xs : List α} (h : d.R e w base ok v xs) {k t : Nat} {cells : Array Value} (hk : v.ownBlock = some k) (hb : w.heap[k]? = some (.cells cells t (0, 0))) : e = t := by
  obtain ⟨inner, ho⟩ := Kd.R_own h; obtain ⟨cells', hc⟩ := own_typed ho k hk; rw [hb] at hc; injection hc with hc; injection hc with _ hc
  exact hc.symm
theorem own_apart {α β : Type} {d : Kd α} {d' : Kd β} {e e' base base' : Nat} {w : World} {ok ok' : Nat → Prop} {v v' : Value} {xs : List α} {ys : List β} (h : d.R e w base ok v xs) (h' : d'.R e' w base' ok' v' ys) (hne : e ≠ e') {k : Nat} (hk : v.ownBlock = some k) (hk' : v'.ownBlock = some k) : False := by
  obtain ⟨inner, ho⟩ := Kd.R_own h'; obtain ⟨cells', hc⟩ := own_typed ho k hk'
  exact hne (own_type h hk hc)
theorem DB.handed {w0 w w1 : World} {g : Nat} {v0 v1 v0' : Value} {l ix r : List Int} (hz : w.heap[g]? = some (.cells #[v0, v1] 156 (0, 0))) (hR0 : Kd.R (Kd.int .u8) 5 w w0.heap.size (fun k => v0.ownBlock = some k) v0 l) (hR1 : Kd.R (Kd.int .i32) 21 w w0.heap.size (fun k => v1.ownBlock = some k) v1 ix) (hg : w0.heap.size ≤ g)
    (hR : Kd.R (Kd.int .u8) 5 w1 w0.heap.size (fun k => v0.ownBlock = some k ∨ w.heap.size ≤ k) v0' r) (hB : Below w0.heap.size w0 w1) (hK : Kept w w1 (fun k => v0.ownBlock = some k)) :
    w1.heap[g]? = some (.cells #[v0, v1] 156 (0, 0)) ∧ Kd.R (Kd.int .i32) 21 w1 w0.heap.size (fun k => v1.ownBlock = some k) v1 ix ∧ Kd.R (Kd.int .u8) 5 w1 w0.heap.size (fun k => v0'.ownBlock = some k) v0' r := by
  have hlt : g < w.heap.size := (Array.getElem?_eq_some_iff.1 hz).1
  refine ⟨(hK.2 g hlt (fun hk => ?_)).trans hz, Kd.R_step hR1 (fun k hk hl => hK.2 k hl (fun hk' => own_apart hR0 hR1 (by decide) hk' hk)), own_self hR⟩
  have := own_type hR0 hk hz
  exact absurd this (by decide)
theorem DB.put {w0 w1 : World} {g : Nat} {v0 v1 v0' : Value} {ix r : List Int} (hz : w1.heap[g]? = some (.cells #[v0, v1] 156 (0, 0))) (hR1 : Kd.R (Kd.int .i32) 21 w1 w0.heap.size (fun k => v1.ownBlock = some k) v1 ix) (hR : Kd.R (Kd.int .u8) 5 w1 w0.heap.size (fun k => v0'.ownBlock = some k) v0' r) (hg : w0.heap.size ≤ g) (hB : Below w0.heap.size w0 w1) :
    (w1.setCell ⟨g, 0, none⟩ v0').heap[g]? = some (.cells #[v0', v1] 156 (0, 0)) ∧ Kd.R (Kd.int .u8) 5 (w1.setCell ⟨g, 0, none⟩ v0') w0.heap.size (fun k => v0'.ownBlock = some k) v0' r ∧ Kd.R (Kd.int .i32) 21 (w1.setCell ⟨g, 0, none⟩ v0') w0.heap.size (fun k => v1.ownBlock = some k) v1 ix ∧ Below w0.heap.size w0 (w1.setCell ⟨g, 0, none⟩ v0') := by
  refine ⟨blk_put hz 0 v0' rfl, Kd.R_far hR (fun k hk => ?_) v0', Kd.R_far hR1 (fun k hk => ?_) v0', below_set hB hg⟩
  · rintro rfl
    exact absurd (own_type hR hk hz) (by decide)
  rintro rfl
  exact absurd (own_type hR1 hk hz) (by decide)
theorem DB.mk' {w0 w1 : World} {g : Nat} {v0 v1 : Value} {ix r : List Int} (hz : w1.heap[g]? = some (.cells #[v0, v1] 156 (0, 0)) ∧ Kd.R (Kd.int .u8) 5 w1 w0.heap.size (fun k => v0.ownBlock = some k) v0 r ∧ Kd.R (Kd.int .i32) 21 w1 w0.heap.size (fun k => v1.ownBlock = some k) v1 ix ∧ Below w0.heap.size w0 w1) (hg : w0.heap.size ≤ g) : DB w0 w1 g r ix := ⟨⟨v0, v1, hz.1, hz.2.1, hz.2.2.1⟩, hg, hz.2.2.2⟩
theorem db_start {w0 w : World} {g : Nat} {l ix r : List Int} {i : Int} (h : DB w0 w g l ix) (hf : bsoncore_AppendDocumentStart.f l = some (i, r)) (hix : ix.length ≤ 1000000) :
    Calls Tryz.prog 85 #[.pointer (some ⟨g, 0, none⟩)] w fun e w' => e = .returned (.pointer (some ⟨g, 0, none⟩)) ∧ DB w0 w' g r (ix ++ [i]) := by
  obtain ⟨⟨v0, v1, hz, hR0, hR1⟩, hg, hB⟩ := h; have c0 := (blk_cell hz 0).trans rfl
  go_enter Tryz.func85, Tryz.ntmps85
  go_wp2_with (first
    | (go_at_call 128; refine (bsoncore_AppendDocumentStart.calls (fun k => v0.ownBlock = some k) v0 l i r w0 w hB hR0 hf).mono ?_; rintro e w1 ⟨v0', rfl, hR, hB1, hK1⟩; obtain ⟨A2, c2, hv2⟩ := Kd.R_slice hR; subst hv2; obtain ⟨hz1, hR1a, hRa⟩ := DB.handed hz hR0 hR1 hg hR hB1 hK1; clear c0; have c0 := (blk_cell hz1 0).trans rfl; have f0 := blk_frozen hz1 0; have P1 := DB.put hz1 hR1a hRa hg hB1; have d1 := (blk_cell P1.1 1).trans rfl)
    | (at_builtin; refine Kd.R_append (Kd.int .i32) (w0 := w0) w0.heap.size rfl (.tmp 19) (.tmp 21) 154 21 (.int .i32 0) 4 rfl Tryz.underlying154 info_i32 rfl (by decide) (by omega) v1 ix i [.int .i32 i] (fun k => v1.ownBlock = some k ∨ (w1.setCell ⟨g, 0, none⟩ (.slice A2 r.length c2)).heap.size ≤ k) (fun _ => False) rfl (by rw [World.size_setCell]; rfl) ?aP (fun _ hk => hk.elim) ?aF ?aO ?aB ?aS ?aL ?_; (case aP => exact rfl); (case aF => exact fun k hk => .inr hk); (case aO => exact Kd.R_mono P1.2.2.1 (fun k hk => .inl hk)); (case aB => exact P1.2.2.2); (case aS => exact P1.2.2.2.size); (case aL => omega); intro v1' w2 ho hb2 hg2 hat2; obtain ⟨A3, c3, hv3⟩ := Kd.R_slice ho; subst hv3; have hne : some g ≠ v1.ownBlock := (fun he => absurd (own_type P1.2.2.1 he.symm P1.1) (by decide)); have hz2 := (hg2.block g (Array.getElem?_eq_some_iff.1 P1.1).1 hne).trans P1.1; have hRb := Kd.R_grown P1.2.1 hg2 (fun k hk he => own_apart P1.2.1 P1.2.2.1 (by decide) hk he.symm); have e1 := (blk_cell hz2 1).trans rfl; have f1 := blk_frozen hz2 1))
  go_ret
  rw [show (ix ++ [i]).length = ix.length + 1 by simp] at ho
  refine ⟨rfl, ⟨_, _, blk_put hz2 1 _ rfl, Kd.R_far hRb (fun k hk => ?_) _, Kd.R_far (own_self ho) (fun k hk => ?_) _⟩, hg, below_set hb2 hg⟩
  · rintro rfl
    exact absurd (own_type hRb hk hz2) (by decide)
  rintro rfl
  exact absurd (own_type ho hk hz2) (by decide)
theorem db_int32 {w0 w : World} {g : Nat} {l ix r : List Int} {s : ByteArray} {n : Int} (h : DB w0 w g l ix) (hf : bsoncore_AppendInt32Element.f l s n = some r) :
    Calls Tryz.prog 106 #[.pointer (some ⟨g, 0, none⟩), .string s, .int .i32 n] w fun e w' => e = .returned (.pointer (some ⟨g, 0, none⟩)) ∧ DB w0 w' g r ix := by
  obtain ⟨⟨v0, v1, hz, hR0, hR1⟩, hg, hB⟩ := h; have c0 := (blk_cell hz 0).trans rfl
  go_enter Tryz.func106, Tryz.ntmps106
  go_wp2_with (go_at_call 147; refine (bsoncore_AppendInt32Element.calls (fun k => v0.ownBlock = some k) v0 l s n r w0 w hB hR0 hf).mono ?_; rintro e w1 ⟨v0', rfl, hR, hB1, hK1⟩; obtain ⟨A2, c2, hv2⟩ := Kd.R_slice hR; subst hv2; obtain ⟨hz1, hR1a, hRa⟩ := DB.handed hz hR0 hR1 hg hR hB1 hK1; clear c0; have c0 := (blk_cell hz1 0).trans rfl; have f0 := blk_frozen hz1 0)
  go_ret
  exact ⟨rfl, DB.mk' (DB.put hz1 hR1a hRa hg hB1) hg⟩
theorem DB.new_ {w0 w : World} (hB : Below w0.heap.size w0 w) : DB w0 (w.alloc (.cells #[.slice none 0 0, .slice none 0 0] 156)) w.heap.size [] [] :=
  ⟨⟨_, _, blk_new w _, Kd.R_nil _ _ _ _ _, Kd.R_nil _ _ _ _ _⟩, hB.size, hB.alloc hB.size _⟩
theorem db_new {w0 w : World} {r : List Int} {i : Int} (hB : Below w0.heap.size w0 w) (hf : bsoncore_AppendDocumentStart.f [] = some (i, r)) :
    Calls Tryz.prog 45 #[] w fun e w' => ∃ g, e = .returned (.pointer (some ⟨g, 0, none⟩)) ∧ DB w0 w' g r [i] := by
  go_enter Tryz.func45, Tryz.ntmps45
  go_wp2_with (go_at_call 85; refine (db_start (DB.new_ hB) hf (by simp)).mono ?_; rintro e w1 ⟨rfl, hD⟩)
  go_ret
  exact ⟨_, rfl, hD⟩
theorem db_build {w0 w : World} {g : Nat} {l r : List Int} {i : Int} (h : DB w0 w g l [i]) (hf : bsoncore_AppendDocumentEnd.f l i = some (r, none)) :
    Calls Tryz.prog 47 #[.pointer (some ⟨g, 0, none⟩)] w fun e w' => ∃ v, e = .returned v ∧ Kd.R (Kd.int .u8) 5 w' w0.heap.size (fun _ => True) v r ∧ Below w0.heap.size w0 w' := by
  obtain ⟨⟨v0, v1, hz, hR0, hR1⟩, hg, hB⟩ := h; obtain ⟨A0, k0, hv0⟩ := Kd.R_slice hR0; subst hv0; obtain ⟨A1, k1, hv1, hk1, hC1⟩ := Kd.R_reads hR1; subst hv1
  obtain ⟨a1, rfl, hx1⟩ := Kd.at_int hC1 0 (by omega) (by simp)
  rw [show (0 : Int).toNat = 0 from rfl, Addr.add_zero', show rd [i] 0 = i from rfl] at hx1; obtain ⟨i0, hi0, hz0⟩ := Option.map_eq_some_iff.1 info_i32
  have hcut := cut_to (P := Tryz.prog) 154 21 .i64 Tryz.underlying154 hi0 (some a1) 1 k1 0 (by omega) (by omega) hk1
  change ∀ W, _ = Result.ok (Value.slice (some a1) 0 k1) W at hcut
  have c0 := (blk_cell hz 0).trans rfl; have c1 := (blk_cell hz 1).trans rfl
  go_enter Tryz.func47, Tryz.ntmps47
  go_wp2
  go_region_with (go_at_call 112; refine (bsoncore_AppendDocumentEnd.calls Er.rho0 (fun k => (Value.slice A0 l.length k0).ownBlock = some k) (.slice A0 l.length k0) l i r none w0 _ (below_drew hB) hR0 hf).mono ?_; rintro e w1 ⟨v0', v1', rfl, hE1, hR, hB1, hK1⟩; obtain rfl := Er.ErrR.nil_ hE1; obtain ⟨A2, c2, hv2⟩ := Kd.R_slice hR; subst hv2; obtain ⟨hz1, hR1a, hRa⟩ := DB.handed hz hR0 hR1 hg hR hB1 hK1; clear c0 c1; have c0 := (blk_cell hz1 0).trans rfl; have f0 := blk_frozen hz1 0; have c1 := (blk_cell hz1 1).trans rfl; have f1 := blk_frozen hz1 1)
  all_goals
    go_wp2
    go_ret
    have P1 := DB.put hz1 hR1a hRa hg hB1
    refine ⟨_, rfl, Kd.R_mono (Kd.R_far P1.2.1 (fun k hk => ?_) _) (fun _ _ => trivial), below_set P1.2.2.2 hg⟩
    rintro rfl
    exact absurd (own_type P1.2.1 hk P1.1) (by decide)
theorem build_one {w0 w : World} {g : Nat} {l ix r : List Int} {A : Option Addr} {c : Nat} {e : S73} (hD : DB w0 w g l ix) (hC : Kd.C k73 w A [e].length [e]) (hc : 1 ≤ c) (hk : e.f1.f0 = 16) (hf : bsoncore_AppendInt32Element.f l e.f0 (wrap32 e.f1.f3) = some r) :
    Calls Tryz.prog 46 #[.pointer (some ⟨g, 0, none⟩), .slice A 1 c] w fun en w' => en = .returned (.tuple #[]) ∧ DB w0 w' g r ix := by
  obtain ⟨ad, A7, c7, A8, c8, rfl, e0, e1, e2, e3, e4, e5, e6, e7, e8, l7, g7, l8, g8⟩ := at_T73 hC 0 (by omega) (by simp)
  have hrd : rd_T73 [e] 0 = e := rfl; rw [hrd] at e0 e1 e2 e3 e4 e5 e6 e7 e8; obtain ⟨s, ek, et, em, en, eb, eh, eB, eK⟩ := e
  simp only at e0 e1 e2 e3 e4 e5 e6 e7 e8 hf hk
  subst hk; rw [show (0 : Int).toNat * 9 = 0 from rfl, Addr.add_zero'] at e0 e1 e2 e3 e4 e5 e6 e7 e8; clear l7 g7 l8 g8 hC hrd
  have al : ∀ {w1 : World} (o : Obj), DB w0 w1 g l ix → DB w0 (w1.alloc o) g l ix := fun o h => by
    obtain ⟨⟨v0, v1, hz, hR0, hR1⟩, hg, hB⟩ := h
    exact ⟨⟨v0, v1, blk_alloc hz o, Kd.R_alloc hR0 o, Kd.R_alloc hR1 o⟩, hg, hB.alloc hB.size _⟩
  go_enter Tryz.func46, Tryz.ntmps46
  go_wp2
  refine wp_loop_rounds 2 ?_
  rw [rounds_succ]
  go_wp2_with (go_at_call 106; refine (db_int32 (al _ (al _ hD)) hf).mono ?_; rintro e w1 ⟨rfl, hD1⟩)
  rw [rounds_succ]
  go_wp2
  go_end0
  exact ⟨rfl, hD1⟩
def impl_Built.f (l0 : List S73) : Option (List Int) := match l0 with
  | [e] => if e.f1.f0 = 16 then (bsoncore_AppendDocumentStart.f []).bind fun x => (bsoncore_AppendInt32Element.f x.2 e.f0 (wrap32 e.f1.f3)).bind fun y => (bsoncore_AppendDocumentEnd.f y x.1).bind fun z => (if z.2 = none then some z.1 else none) else none
  | _ => none
theorem impl_Built.calls (A0 : Option Addr) (c0 : Nat) (l0 : List S73) (r : List Int) (w : World) (hr0 : Kd.C k73 w A0 l0.length l0) (hc0 : l0.length ≤ c0) (h : impl_Built.f l0 = some r) :
    Calls Tryz.prog 27 #[.slice A0 l0.length c0] w fun e w' => ∃ v0_ : Value, e = .returned (v0_) ∧ Kd.R (Kd.int .u8) 5 w' w.heap.size (fun _ => True) v0_ r ∧ Below w.heap.size w w' := by
  unfold impl_Built.f at h
  split at h
  next e =>
    split at h
    next hk =>
      obtain ⟨⟨i, y⟩, h1, h⟩ := Option.bind_eq_some_iff.1 h; obtain ⟨z, h2, h⟩ := Option.bind_eq_some_iff.1 h; obtain ⟨⟨x, er⟩, h3, h⟩ := Option.bind_eq_some_iff.1 h
      cases er with
      | some _ => cases h
      | none =>
        obtain rfl := Option.some.inj h
        go_enter Tryz.func27, Tryz.ntmps27
        go_wp2_with (first
          | (go_at_call 45; refine (db_new (Below.refl _ _) h1).mono ?_; rintro e w1 ⟨g, rfl, hD1⟩)
          | (go_at_call 46; refine (build_one hD1 (Kd.C_below hr0 hD1.hB) hc0 hk h2).mono ?_; rintro e w2 ⟨rfl, hD2⟩)
          | (go_at_call 47; refine (db_build hD2 h3).mono ?_; rintro e w3 ⟨v, rfl, hR, hB⟩))
        go_ret
        exact ⟨v, rfl, hR, hB⟩
    next => cases h
  next => cases h
def bsoncore_ReadInt32.f (l0 : List Int) : Option (Int × List Int × Bool) := (binaryutil_ReadI32.f l0).bind fun bt410 => (some (bt410.1, bt410.2.1, bt410.2.2))
theorem bsoncore_ReadInt32.calls (P0_ : Nat → Prop) (A0 : Option Addr) (c0 : Nat) (l0 : List Int) (r1 : Int) (r2 : List Int) (r3 : Bool) (w : World) (hs0 : Kd.V (Kd.int .u8) 5 w w.heap.size (fun k_ => P0_ k_) (.slice A0 l0.length c0) l0) (h : bsoncore_ReadInt32.f l0 = some (r1, r2, r3)) :
    Calls Tryz.prog 63 #[.slice A0 l0.length c0] w fun e w' => ∃ v1_ : Value, e = .returned (.tuple #[.int .i32 r1, v1_, .bool r3]) ∧ Kd.V (Kd.int .u8) 5 w' w.heap.size (fun k_ => (P0_ k_ ∨ w.heap.size ≤ k_)) v1_ r2 ∧ Below w.heap.size w w' := by
  have HO0 := Aside0.mk (show Kd.V (Kd.int .u8) 5 w w.heap.size (fun k_ => (P0_ k_ ∨ w.heap.size ≤ k_)) (.slice A0 l0.length c0) l0 from Kd.V_mono hs0 (fun k_ hk => .inl hk)); have HB := Aside0.mk (Below.refl w.heap.size w); have H : ((binaryutil_ReadI32.f l0).bind fun bt410 => (some (bt410.1, bt410.2.1, bt410.2.2))) = some (r1, r2, r3) := h; clear h; replace H := Option.bind_eq_some_iff.mp H; obtain ⟨⟨t410, t411, t414⟩, A20, H⟩ := H; replace H : (some (t410, t411, t414)) = some (r1, r2, r3) := H; have A2 := Aside0.mk A20; clear A20
  as_aux_lemma =>
    simp only [Option.some.injEq, Prod.mk.injEq] at H
    obtain ⟨rfl, rfl, rfl⟩ := H
    go_enter Tryz.func63, Tryz.ntmps63
    go_wp2_with (first | ((with_reducible refine gate_callee (f := 118) rfl ?_); refine HW.gz (some 6) rfl rfl Tryz.func118 (by kernel_rfl) rfl #[.slice A0 l0.length c0] rfl ?_; (with_reducible refine (binaryutil_ReadI32.calls (fun k_ => (P0_ k_ ∨ w.heap.size ≤ k_)) _ _ l0 t410 t411 t414 _ ?side1 A2.out).mono ?_); (case side1 => exact HO0.out); rintro e w3 ⟨v412, rfl, ho0, hb⟩; refine ⟨_, rfl, ?_⟩; have HO413 := Aside0.mk (Kd.V_lower (Kd.V_mono (ok' := fun k_ => (P0_ k_ ∨ w.heap.size ≤ k_)) ho0 (fun k_ hk_ => Or.elim hk_ (fun hs_ => hs_) (fun hn_ => (.inr (Nat.le_trans (below_size HW.zb) hn_))))) (below_size HW.zb)); replace HB := Aside0.mk (below_step HW.zb hb); (try clear hb); (try clear ho0)))
    go_ret3
    exact ⟨_, rfl, HW.zV HO413.out, HW.zb⟩
theorem set8 {w : World} {g t : Nat} {a b c d e f x y a' b' c' d' e' f' x' y' : Value} (hz : w.heap[g]? = some (.cells #[a, b, c, d, e, f, x, y] t (0, 0))) :
    ((((((((w.setCell ⟨g, 0, none⟩ a').setCell ⟨g, 1, none⟩ b').setCell ⟨g, 2, none⟩ c').setCell ⟨g, 3, none⟩ d').setCell ⟨g, 4, none⟩ e').setCell ⟨g, 5, none⟩ f').setCell ⟨g, 6, none⟩ x').setCell ⟨g, 7, none⟩ y').heap[g]? = some (.cells #[a', b', c', d', e', f', x', y'] t (0, 0)) := by
  have h0 : (w.setCell ⟨g, 0, none⟩ a').heap[g]? = some (.cells #[a', b, c, d, e, f, x, y] t (0, 0)) := blk_put hz 0 _ rfl; have h1 : ((w.setCell ⟨g, 0, none⟩ a').setCell ⟨g, 1, none⟩ b').heap[g]? = some (.cells #[a', b', c, d, e, f, x, y] t (0, 0)) := blk_put h0 1 _ rfl; have h2 : (((w.setCell ⟨g, 0, none⟩ a').setCell ⟨g, 1, none⟩ b').setCell ⟨g, 2, none⟩ c').heap[g]? = some (.cells #[a', b', c', d, e, f, x, y] t (0, 0)) := blk_put h1 2 _ rfl; have h3 : ((((w.setCell ⟨g, 0, none⟩ a').setCell ⟨g, 1, none⟩ b').setCell ⟨g, 2, none⟩ c').setCell ⟨g, 3, none⟩ d').heap[g]? = some (.cells #[a', b', c', d', e, f, x, y] t (0, 0)) := blk_put h2 3 _ rfl; have h4 : (((((w.setCell ⟨g, 0, none⟩ a').setCell ⟨g, 1, none⟩ b').setCell ⟨g, 2, none⟩ c').setCell ⟨g, 3, none⟩ d').setCell ⟨g, 4, none⟩ e').heap[g]? = some (.cells #[a', b', c', d', e', f, x, y] t (0, 0)) := blk_put h3 4 _ rfl; have h5 : ((((((w.setCell ⟨g, 0, none⟩ a').setCell ⟨g, 1, none⟩ b').setCell ⟨g, 2, none⟩ c').setCell ⟨g, 3, none⟩ d').setCell ⟨g, 4, none⟩ e').setCell ⟨g, 5, none⟩ f').heap[g]? = some (.cells #[a', b', c', d', e', f', x, y] t (0, 0)) := blk_put h4 5 _ rfl; have h6 : (((((((w.setCell ⟨g, 0, none⟩ a').setCell ⟨g, 1, none⟩ b').setCell ⟨g, 2, none⟩ c').setCell ⟨g, 3, none⟩ d').setCell ⟨g, 4, none⟩ e').setCell ⟨g, 5, none⟩ f').setCell ⟨g, 6, none⟩ x').heap[g]? = some (.cells #[a', b', c', d', e', f', x', y] t (0, 0)) := blk_put h5 6 _ rfl
  have h7 : ((((((((w.setCell ⟨g, 0, none⟩ a').setCell ⟨g, 1, none⟩ b').setCell ⟨g, 2, none⟩ c').setCell ⟨g, 3, none⟩ d').setCell ⟨g, 4, none⟩ e').setCell ⟨g, 5, none⟩ f').setCell ⟨g, 6, none⟩ x').setCell ⟨g, 7, none⟩ y').heap[g]? = some (.cells #[a', b', c', d', e', f', x', y'] t (0, 0)) := blk_put h6 7 _ rfl
  exact h7
theorem set8_R {α : Type} {dk : Kd α} {ty base : Nat} {ok : Nat → Prop} {v : Value} {xs : List α} {w : World} {g : Nat} {a' b' c' d' e' f' x' y' : Value} (h : dk.R ty w base ok v xs) (hok : ∀ k, ok k → k ≠ g) :
    dk.R ty ((((((((w.setCell ⟨g, 0, none⟩ a').setCell ⟨g, 1, none⟩ b').setCell ⟨g, 2, none⟩ c').setCell ⟨g, 3, none⟩ d').setCell ⟨g, 4, none⟩ e').setCell ⟨g, 5, none⟩ f').setCell ⟨g, 6, none⟩ x').setCell ⟨g, 7, none⟩ y') base ok v xs := by
  have h0 := Kd.R_far (p := ⟨g, 0, none⟩) h hok a'; have h1 := Kd.R_far (p := ⟨g, 1, none⟩) h0 hok b'; have h2 := Kd.R_far (p := ⟨g, 2, none⟩) h1 hok c'; have h3 := Kd.R_far (p := ⟨g, 3, none⟩) h2 hok d'; have h4 := Kd.R_far (p := ⟨g, 4, none⟩) h3 hok e'; have h5 := Kd.R_far (p := ⟨g, 5, none⟩) h4 hok f'; have h6 := Kd.R_far (p := ⟨g, 6, none⟩) h5 hok x'; have h7 := Kd.R_far (p := ⟨g, 7, none⟩) h6 hok y'
  exact h7
theorem set8_B {w0 w : World} {g : Nat} {a' b' c' d' e' f' x' y' : Value} (h : Below w0.heap.size w0 w) (hg : w0.heap.size ≤ g) :
    Below w0.heap.size w0 ((((((((w.setCell ⟨g, 0, none⟩ a').setCell ⟨g, 1, none⟩ b').setCell ⟨g, 2, none⟩ c').setCell ⟨g, 3, none⟩ d').setCell ⟨g, 4, none⟩ e').setCell ⟨g, 5, none⟩ f').setCell ⟨g, 6, none⟩ x').setCell ⟨g, 7, none⟩ y') := by
  have h0 := below_set (g := g) (j := 0) (v := a') h hg; have h1 := below_set (g := g) (j := 1) (v := b') h0 hg; have h2 := below_set (g := g) (j := 2) (v := c') h1 hg; have h3 := below_set (g := g) (j := 3) (v := d') h2 hg; have h4 := below_set (g := g) (j := 4) (v := e') h3 hg; have h5 := below_set (g := g) (j := 5) (v := f') h4 hg; have h6 := below_set (g := g) (j := 6) (v := x') h5 hg; have h7 := below_set (g := g) (j := 7) (v := y') h6 hg
  exact h7
theorem rd_int32 (A : Option Addr) (c : Nat) (l r o : List Int) (n : Int) (w : World) (hC : Kd.C (Kd.int .u8) w A l.length l) (hc : l.length ≤ c) (hf : bsoncore_ReadInt32.f l = some (n, r, true)) (ho : impl_own.f r = some o) :
    Calls Tryz.prog 28 #[.int .i64 16, .slice A l.length c] w fun e w' => ∃ v, e = .returned (.tuple #[.agg #[.int .i64 16, .string ⟨#[]⟩, .string ⟨#[]⟩, .int .i64 (wrap64 n), .int .u64 0, .int .u64 0, .slice none 0 0, .slice none 0 0], v, .bool true]) ∧ Kd.R (Kd.int .u8) 5 w' w.heap.size (fun _ => True) v o ∧ Below w.heap.size w w' := by
  have hV : ∀ o : Obj, Kd.V (Kd.int .u8) 5 (w.alloc o) (w.alloc o).heap.size (fun k => k < w.heap.size) (.slice A l.length c) l := fun o => Kd.V_mk hc (Kd.F_mono (Kd.F_below (Kd.F_bound (Kd.C_F (Kd.heap_int _) hC)) (below_alloc (Below.refl _ _) o)) (fun k hk => hk.2)); have hB0 : ∀ o : Obj, Below w.heap.size w (w.alloc o) := fun o => below_alloc (Below.refl _ _) o
  go_enter Tryz.func28, Tryz.ntmps28
  go_wp2_with (go_at_call 63; (refine (bsoncore_ReadInt32.calls (fun k => k < w.heap.size) A c l n r true _ (hV _) hf).mono ?_; rintro e w1 ⟨v1, rfl, hv1, hb1⟩; obtain ⟨A1, c1, hv⟩ := Kd.V_slice hv1; subst hv; have hz := blk_below (blk_new w _) hb1; have hB1 := below_step (hB0 _) hb1; have d3 := (blk_cell hz 3).trans rfl; have f3 := blk_frozen hz 3))
  have hz3 := blk_put hz 3 (.int .i64 (wrap64 n)) rfl; have hB3 := below_set (j := 3) (v := .int .i64 (wrap64 n)) hB1 (Nat.le_refl w.heap.size)
  have hv3 := Kd.V_far (p := ⟨w.heap.size, 3, none⟩) hv1 (fun k hk => by simp at hk ⊢; omega) (.int .i64 (wrap64 n))
  obtain ⟨_, hc3, hC3⟩ := Kd.V_reads' hv3; generalize w1.setCell ⟨w.heap.size, 3, none⟩ (.int .i64 (wrap64 n)) = w3 at hz3 hB3 hv3 hC3 ⊢; have y0 := (blk_cell hz3 0).trans rfl; have y1 := (blk_cell hz3 1).trans rfl; have y2 := (blk_cell hz3 2).trans rfl; have y3 := (blk_cell hz3 3).trans rfl; have y4 := (blk_cell hz3 4).trans rfl; have y5 := (blk_cell hz3 5).trans rfl; have y6 := (blk_cell hz3 6).trans rfl; have y7 := (blk_cell hz3 7).trans rfl; clear hz d3 f3 hv1 hb1 hB1
  go_region_with (go_at_call 23; refine (impl_own.calls A1 c1 r o _ (Kd.C_below hC3 (below_drew (Below.refl _ _))) hc3 ho).mono ?_; rintro e w4 ⟨v4, rfl, hR, hb4⟩; have hz4 := blk_below (w := w3.drew) hz3 hb4; have hB4 := below_step (below_drew hB3) hb4; obtain ⟨A4, c4, hv⟩ := Kd.R_slice hR; subst hv; clear y0 y1 y2 y3 y4 y5 y6 y7; have y0 := (blk_cell hz4 0).trans rfl; have y1 := (blk_cell hz4 1).trans rfl; have y2 := (blk_cell hz4 2).trans rfl; have y3 := (blk_cell hz4 3).trans rfl; have y4 := (blk_cell hz4 4).trans rfl; have y5 := (blk_cell hz4 5).trans rfl; have y6 := (blk_cell hz4 6).trans rfl; have y7 := (blk_cell hz4 7).trans rfl; have f0 := blk_frozen hz4 0; have f1 := blk_frozen hz4 1; have f2 := blk_frozen hz4 2; have f3 := blk_frozen hz4 3; have f4 := blk_frozen hz4 4; have f5 := blk_frozen hz4 5; have f6 := blk_frozen hz4 6; have f7 := blk_frozen hz4 7)
  all_goals
    go_wp2
    refine bodyPost_ret (results_ctt rfl _ _ w.heap.size 46 _ (0, 0) _ rfl (set8 hz4) Tryz.underlying46 rfl (by kernel_rfl)) rfl ?_
    have hlt : w.heap.size < w3.heap.size := (Array.getElem?_eq_some_iff.1 hz3).1
    exact ⟨_, rfl, Kd.R_mono (Kd.R_lower (set8_R (Kd.R_bound hR) (fun k hk => by have h5 := hk.2.1; have h6 : w3.heap.size ≤ k := h5; omega)) (Nat.le_of_lt hlt)) (fun _ _ => trivial), set8_B hB4 (Nat.le_refl _)⟩
def impl_Read.f (a0 : Int) (l1 : List Int) : Option (Int × ByteArray × ByteArray × Int × Int × Int × List Int × List S73 × List Int × Bool) := if a0 = 16 then (bsoncore_ReadInt32.f l1).bind fun x => (impl_own.f x.2.1).bind fun o => (if x.2.2 = true then some (16, ⟨#[]⟩, ⟨#[]⟩, wrap64 x.1, 0, 0, [], [], o, true) else none) else none
theorem impl_Read.calls (a0 : Int) (A1 : Option Addr) (c1 : Nat) (l1 : List Int) (r1 : Int) (r2 r3 : ByteArray) (r4 r5 r6 : Int) (r7 : List Int) (r8 : List S73) (r9 : List Int) (r10 : Bool) (w : World) (hr1 : Kd.C (Kd.int .u8) w A1 l1.length l1) (hc1 : l1.length ≤ c1) (h : impl_Read.f a0 l1 = some (r1, r2, r3, r4, r5, r6, r7, r8, r9, r10)) :
    Calls Tryz.prog 28 #[.int .i64 a0, .slice A1 l1.length c1] w fun e w' => ∃ v1_ v2_ v3_ : Value, e = .returned (.tuple #[.agg #[.int .i64 r1, .string r2, .string r3, .int .i64 r4, .int .u64 r5, .int .u64 r6, v1_, v2_], v3_, .bool r10]) ∧ Kd.R (Kd.int .u8) 5 w' w.heap.size (fun k_ => some k_ ≠ (v3_ : Value).ownBlock) v1_ r7 ∧ Kd.R k73 73 w' w.heap.size (fun k_ => some k_ ≠ (v1_ : Value).ownBlock ∧ some k_ ≠ (v3_ : Value).ownBlock) v2_ r8 ∧ Kd.R (Kd.int .u8) 5 w' w.heap.size (fun k_ => some k_ ≠ (v1_ : Value).ownBlock) v3_ r9 ∧ Below w.heap.size w w' := by
  unfold impl_Read.f at h
  split at h
  next ha =>
    subst ha; obtain ⟨⟨n, r, ok⟩, hf, h⟩ := Option.bind_eq_some_iff.1 h; obtain ⟨o, ho, h⟩ := Option.bind_eq_some_iff.1 h
    cases ok with
    | false => cases h
    | true =>
      simp only [if_true, Option.some.injEq, Prod.mk.injEq] at h
      obtain ⟨rfl, rfl, rfl, rfl, rfl, rfl, rfl, rfl, rfl, rfl⟩ := h
      refine (rd_int32 A1 c1 l1 r o n w hr1 hc1 hf ho).mono ?_
      rintro e w' ⟨v, rfl, hR, hB⟩
      exact ⟨_, _, v, rfl, Kd.R_nil _ _ _ _ _, Kd.R_nil _ _ _ _ _, Kd.R_mono hR (fun _ _ => by simp [Value.ownBlock]), hB⟩
  next => cases h
theorem code_text (s : ByteArray) (w : World) (h1 : (s.toList == ([100, 111, 99, 117, 109, 101, 110, 116, 32, 111, 114, 32, 97, 114, 114, 97, 121, 32, 108, 101, 110, 103, 116, 104, 32, 105, 115, 32, 105, 110, 118, 97, 108, 105, 100] : List UInt8)) = false) (h2 : (s.toList == ([100, 111, 99, 117, 109, 101, 110, 116, 32, 111, 114, 32, 97, 114, 114, 97, 121, 32, 101, 110, 100, 32, 105, 115, 32, 109, 105, 115, 115, 105, 110, 103, 32, 110, 117, 108, 108, 32, 98, 121, 116, 101] : List UInt8)) = false) :
    Calls Tryz.prog 24 #[.iface 92 (.string s)] w fun e w' => e = .returned (.int .i64 4) ∧ Below w.heap.size w w' := by
  have t1 : ∀ W : World, (Instr.typeAssert (.iface 92 (.string s)) 59 91 true).run Tryz.prog W = .ok (.tuple #[.agg #[.slice none 0 0, .slice none 0 0], .bool false]) W := fun W => by rfl
  have t2 : ∀ W : World, (Instr.typeAssert (.iface 92 (.string s)) 59 92 true).run Tryz.prog W = .ok (.tuple #[.string s, .bool true]) W := fun W => by rfl
  go_enter Tryz.func24, Tryz.ntmps24
  go_wp2
  go_ret
  exact ⟨rfl, Below.refl _ _⟩
theorem length_error (a b : Int) (w : World) : Calls Tryz.prog 121 #[.int .i64 a, .int .i64 b] w fun e w' => ∃ s, e = .returned (.iface 92 (.string s)) ∧ s = (⟨#[100, 111, 99, 117, 109, 101, 110, 116]⟩ : ByteArray) ++ ⟨#[32, 108, 101, 110, 103, 116, 104, 32, 101, 120, 99, 101, 101, 100, 115, 32, 97, 118, 97, 105, 108, 97, 98, 108, 101, 32, 98, 121, 116, 101, 115]⟩ ∧ Below w.heap.size w w' := by
  go_enter Tryz.func121, Tryz.ntmps121
  go_wp2
  go_ret
  exact ⟨_, rfl, rfl, Below.refl _ _⟩
theorem dv_long (A : Option Addr) (c : Nat) (l rest : List Int) (n : Int) (w : World) (hC : Kd.C (Kd.int .u8) w A l.length l) (hc : l.length ≤ c) (hl : l.length ≤ 1000000) (hf : bsoncore_ReadLength.f l = some (n, rest, true)) (hn : (l.length : Int) < n) (hn2 : n ≤ 2147483647) :
    Calls Tryz.prog 68 #[.slice A l.length c] w fun e w' => ∃ s, e = .returned (.iface 92 (.string s)) ∧ s = (⟨#[100, 111, 99, 117, 109, 101, 110, 116]⟩ : ByteArray) ++ ⟨#[32, 108, 101, 110, 103, 116, 104, 32, 101, 120, 99, 101, 101, 100, 115, 32, 97, 118, 97, 105, 108, 97, 98, 108, 101, 32, 98, 121, 116, 101, 115]⟩ ∧ Below w.heap.size w w' := by
  have hV : Kd.V (Kd.int .u8) 5 w w.heap.size (fun _ => True) (.slice A l.length c) l := Kd.V_mk hc (Kd.F_mono (Kd.C_F (Kd.heap_int _) hC) (fun _ _ => trivial))
  have hw : wrap64 n = n := by unfold wrap64; omega
  have d0 : decide ((l.length : Int) < n) = true := decide_eq_true hn; clear hC hc
  go_enter Tryz.func68, Tryz.ntmps68
  go_wp2_with (first | (go_at_call 74; refine (bsoncore_ReadLength.calls (fun _ => True) A c l n rest true w hV hf).mono ?_; rintro e w1 ⟨v1, rfl, _, hb1⟩) | (go_at_call 121; refine (length_error _ _ _).mono ?_; rintro e w2 ⟨s, rfl, hs, hb2⟩))
  go_ret
  exact ⟨_, rfl, rfl, below_step hb1 hb2⟩
def impl_Validate.f (l0 : List Int) : Option (Int) := match bsoncore_ReadLength.f l0 with
  | some (n, _, true) => if (l0.length : Int) < n ∧ l0.length ≤ 1000000 ∧ n ≤ 2147483647 then some 4 else none
  | _ => none
theorem impl_Validate.calls (A0 : Option Addr) (c0 : Nat) (l0 : List Int) (r : Int) (w : World) (hr0 : Kd.C (Kd.int .u8) w A0 l0.length l0) (hc0 : l0.length ≤ c0) (h : impl_Validate.f l0 = some r) :
    Calls Tryz.prog 29 #[.slice A0 l0.length c0] w fun e w' => e = .returned (.int .i64 r) ∧ Below w.heap.size w w' := by
  unfold impl_Validate.f at h
  split at h
  next n rest hf =>
    split at h
    next hc =>
      obtain rfl := Option.some.inj h
      go_enter Tryz.func29, Tryz.ntmps29
      go_wp2_with (first | (go_at_call 68; refine (dv_long A0 c0 l0 rest n w hr0 hc0 hc.2.1 hf hc.1 hc.2.2).mono ?_; rintro e w1 ⟨s, rfl, hs, hb1⟩; subst hs) | (go_at_call 24; refine (code_text _ _ (by decide +kernel) (by decide +kernel)).mono ?_; rintro e w2 ⟨rfl, hb2⟩))
      go_ret
      exact ⟨rfl, below_step hb1 hb2⟩
    next => cases h
  next => cases h
end Go.Proofs.YtbfhpjkahobgnaaGreatDoor.PLo
