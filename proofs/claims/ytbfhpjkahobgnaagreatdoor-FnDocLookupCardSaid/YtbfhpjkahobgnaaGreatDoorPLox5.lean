import Derived.Test.YtbfhpjkahobgnaaGreatDoorPLox0
import Derived.Test.YtbfhpjkahobgnaaGreatDoorPLox1
import Derived.Test.YtbfhpjkahobgnaaGreatDoorPLox3
import Derived.Test.YtbfhpjkahobgnaaGreatDoorPLox4
namespace Go.Proofs.YtbfhpjkahobgnaaGreatDoor.PLo
open Go.Proofs.YtbfhpjkahobgnaaGreatDoor.HW (tt ff)
open Go.RowKit Go.Proofs.YtbfhpjkahobgnaaGreatDoorW.PrintWords Go.Proofs.YtbfhpjkahobgnaaGreatDoorW.PrintLast Go.Proofs.YtbfhpjkahobgnaaGreatDoorW.PrintMore
attribute [local go_sem] max2_int min2_int max_two min_two max_three min_three max_four min_four
set_option linter.unusedVariables false
set_option maxHeartbeats 8000000
set_option maxRecDepth 100000
set_option linter.unusedSimpArgs false
mutual
def bsoncore_Document_LookupErr.l0 : Nat → List ByteArray → Int → List Int → Option (Int × List Int × Option (Int × ByteArray))
  | 0, _, _, _ => none
  | k + 1, x1, x6, x7 => if x6 > 1 then ((bsoncore_ReadElement.f k x7).bind fun bt300 => (if bt300.2.2 = true then ((bsoncore_Element_KeyBytes.f bt300.1).bind fun t307 => (if 0 < (x1.length : Int) then (if (strOfNums t307).toList = (rdOf ByteArray.empty x1 0).toList then (if (x1.length : Int) > 1 then (if 0 < (bt300.1.length : Int) then (if (rd bt300.1 0) = 3 then ((bsoncore_Element_Value.f k bt300.1).bind fun bt312 => ((bsoncore_Value_Document.f bt312.1 bt312.2).bind fun t316 => (if 1 ≤ (x1.length : Int) then ((bsoncore_Document_LookupErr.f k t316 (x1.drop 1)).bind fun bt320 => (if bt320.2.2.isNone = true then (some (bt320.1, bt320.2.1, none)) else (some (0, ([] : List Int), bt320.2.2)))) else (none)))) else (if (rd bt300.1 0) = 4 then ((bsoncore_Element_Value.f k bt300.1).bind fun bt327 => ((bsoncore_Value_Array.f bt327.1 bt327.2).bind fun t331 => (if 1 ≤ (x1.length : Int) then ((bsoncore_Document_LookupErr.f k t331 (x1.drop 1)).bind fun bt335 => (if bt335.2.2.isNone = true then (some (bt335.1, bt335.2.1, none)) else (some (0, ([] : List Int), bt335.2.2)))) else (none)))) else ((bsoncore_Element_Key.f bt300.1).bind fun t342 => (some (0, ([] : List Int), some (95, t342)))))) else (none)) else ((bsoncore_Element_ValueErr.f k bt300.1).bind fun bt343 => (some (bt343.1, bt343.2.1, bt343.2.2)))) else (bsoncore_Document_LookupErr.l0 k x1 (wrap32 (x6 - (wrap32 ((bt300.1.length : Int))))) bt300.2.1)) else (none))) else (none))) else (some (0, ([] : List Int), some (-2, (⟨#[]⟩ : ByteArray))))
def bsoncore_Document_LookupErr.f : Nat → List Int → List ByteArray → Option (Int × List Int × Option (Int × ByteArray))
  | 0, _, _ => none
  | k + 1, l0, l1 => if (l1.length : Int) < 1 then (some (0, ([] : List Int), some (-3, (⟨#[]⟩ : ByteArray)))) else ((bsoncore_ReadLength.f l0).bind fun bt295 => (if bt295.2.2 = true then (bsoncore_Document_LookupErr.l0 k l1 (wrap32 (bt295.1 - 4)) bt295.2.1) else (none)))
end
theorem bsoncore_Document_LookupErr.mono_l : ∀ k, (∀ y0 y1, LeO (bsoncore_Document_LookupErr.f k y0 y1) (bsoncore_Document_LookupErr.f (k + 1) y0 y1)) ∧ (∀ y0 y1 y2, LeO (bsoncore_Document_LookupErr.l0 k y0 y1 y2) (bsoncore_Document_LookupErr.l0 (k + 1) y0 y1 y2))
  | 0 => ⟨fun _ _ r h => by simp [bsoncore_Document_LookupErr.f] at h, fun _ _ _ r h => by simp [bsoncore_Document_LookupErr.l0] at h⟩
  | k + 1 => by
    obtain ⟨ih0, ih1⟩ := bsoncore_Document_LookupErr.mono_l k
    refine ⟨?_, ?_⟩
    · intro y0 y1
      unfold bsoncore_Document_LookupErr.f
      have m0_ := @ih0; have m1_ := @ih1; have m2_ := @bsoncore_Element_Value.mono; have m3_ := @bsoncore_Element_ValueErr.mono; have m4_ := @bsoncore_ReadElement.mono; exact HW.mo
    · intro y0 y1 y2
      unfold bsoncore_Document_LookupErr.l0
      have m0_ := @ih0; have m1_ := @ih1; have m2_ := @bsoncore_Element_Value.mono; have m3_ := @bsoncore_Element_ValueErr.mono; have m4_ := @bsoncore_ReadElement.mono; exact HW.mo
theorem bsoncore_Document_LookupErr.mono : ∀ a0 a1 k, LeO (bsoncore_Document_LookupErr.f k a0 a1) (bsoncore_Document_LookupErr.f (k + 1) a0 a1) := by
  intro a0 a1 k
  obtain ⟨ih0, ih1⟩ := bsoncore_Document_LookupErr.mono_l k
  exact ih0 a0 a1
def bsoncore_Document_LookupErr.T19 : Bool × List (List Nat × List Nat) := (true, [([], []), ([0], [0]), ([1, 1], [1]), ([], []), ([3], [3]), ([2, 4, 2], [2, 4]), ([5], [5]), ([6], [6]), ([6], [6]), ([], []), ([9, 7, 5, 0, 1, 2, 3, 4, 5, 6, 7, 9], [7, 9]), ([8, 10, 0, 1, 2, 3, 4, 5, 6, 7, 8, 9, 10], [8])])
def bsoncore_Document_LookupErr.B19 : List Nat := [0, 1, 3, 0, 8, 31, 63, 127, 127, 0, 767, 2047]
theorem bsoncore_Document_LookupErr.tab19 : rtab .any (opsOf Tryz.f35 19) = bsoncore_Document_LookupErr.T19 := by kernel_rfl
theorem bsoncore_Document_LookupErr.bits19 : waitsOk bsoncore_Document_LookupErr.T19.2 bsoncore_Document_LookupErr.B19 = true := by kernel_rfl
def bsoncore_Document_LookupErr.T24 : Bool × List (List Nat × List Nat) := (true, [([], []), ([0], [0]), ([1, 1], [1]), ([], []), ([3], [3]), ([2, 4, 2], [2, 4]), ([5], [5]), ([6], [6]), ([6], [6]), ([], []), ([9, 7, 5, 0, 1, 2, 3, 4, 5, 6, 7, 9], [7, 9]), ([8, 10, 0, 1, 2, 3, 4, 5, 6, 7, 8, 9, 10], [8])])
def bsoncore_Document_LookupErr.B24 : List Nat := [0, 1, 3, 0, 8, 31, 63, 127, 127, 0, 767, 2047]
theorem bsoncore_Document_LookupErr.tab24 : rtab .any (opsOf Tryz.f35 24) = bsoncore_Document_LookupErr.T24 := by kernel_rfl
theorem bsoncore_Document_LookupErr.bits24 : waitsOk bsoncore_Document_LookupErr.T24.2 bsoncore_Document_LookupErr.B24 = true := by kernel_rfl
theorem bsoncore_Document_LookupErr.calls (ρ : Nat → Addr) (k : Nat) : ∀ (P0_ : Nat → Prop) (A0 : Option Addr) (c0 : Nat) (l0 : List Int) (A1 : Option Addr) (c1 : Nat) (l1 : List ByteArray) (r1 : Int) (r2 : List Int) (r3 : Option (Int × ByteArray)) (w : World) (hL : Er.LaidE ρ w) (hs0 : Kd.V (Kd.int .u8) 5 w w.heap.size (fun k_ => P0_ k_) (.slice A0 l0.length c0) l0) (hr1 : Kd.C Kd.string w A1 l1.length l1) (hc1 : l1.length ≤ c1) (h : bsoncore_Document_LookupErr.f k l0 l1 = some (r1, r2, r3)),
    Calls Tryz.prog 35 #[.slice A0 l0.length c0, .slice A1 l1.length c1] w fun e w' => ∃ v1_ v2_ : Value, e = .returned (.tuple #[.agg #[.int .u8 r1, v1_], v2_]) ∧ Er.ErrR ρ v2_ r3 ∧ Kd.V (Kd.int .u8) 5 w' w.heap.size (fun k_ => (P0_ k_ ∨ w.heap.size ≤ k_)) v1_ r2 ∧ Below w.heap.size w w' := by
  induction k using Nat.strongRecOn with
  | _ k ih =>
  intro P0_ A0 c0 l0 A1 c1 l1 r1 r2 r3 w hL hs0 hr1 hc1 h
  cases k with
  | zero => exact absurd h (by simp [bsoncore_Document_LookupErr.f])
  | succ k =>
  simp only [bsoncore_Document_LookupErr.f] at h
  have hu67 := Tryz.underlying67; have hu95 := Tryz.underlying95; have hu59 := Tryz.underlying59; have HO0 := Aside0.mk (show Kd.V (Kd.int .u8) 5 w w.heap.size (fun k_ => (P0_ k_ ∨ w.heap.size ≤ k_)) (.slice A0 l0.length c0) l0 from Kd.V_mono hs0 (fun k_ hk => .inl hk)); have HR1 := Aside0.mk hr1; have HC1 := Aside0.mk hc1; clear hr1 hc1; have HB := Aside0.mk (Below.refl w.heap.size w); have HL_ := Aside0.mk hL; clear hL
  have hgw1 := HL_.out.cell 1 (by decide)
  have hgw2 := HL_.out.cell 2 (by decide)
  have H : (if (l1.length : Int) < 1 then (some (0, ([] : List Int), some (-3, (⟨#[]⟩ : ByteArray)))) else ((bsoncore_ReadLength.f l0).bind fun bt295 => (if bt295.2.2 = true then (bsoncore_Document_LookupErr.l0 k l1 (wrap32 (bt295.1 - 4)) bt295.2.1) else (none)))) = some (r1, r2, r3) := h; clear h
  by_cases c3 : (l1.length : Int) < 1
  · rw [if_pos c3] at H
    have c3b0 : decide ((l1.length : Int) < 1) = true := decide_eq_true c3
    have c3b1 : decide (l1.length < 1) = true := decide_eq_true (by omega)
    clear c3
    as_aux_lemma =>
      simp only [Option.some.injEq, Prod.mk.injEq] at H
      obtain ⟨rfl, rfl, rfl⟩ := H; have hg1 := hgw1; have hg2 := hgw2
      go_enter Tryz.func35, Tryz.ntmps35
      try go_wp2_with (first | ((with_reducible refine gate_dst (N := 4) rfl ?_); refine box_event ?hg (N := 4) ?hd (cs := #[.int .u8 0, .slice none 0 0]) (t := 67) ?hr ?_; (case hd => rfl); (case hg => rfl); (case hr => first | (go_simp; done) | (go_simp; rfl)); intro gb294 hg w4 hbox hb; replace HO0 := Aside0.mk (Kd.V_below (Kd.V_elderB (HW.zV HO0.out) gb294 (Nat.le_of_eq hg.symm)) hb); have BK294 := Aside0.mk (hbox); have GW294 := Aside0.mk ((by rw [hg]; exact (below_size HW.zb) : w.heap.size ≤ gb294)); have GE294 := Aside0.mk ((by rw [hg]; exact (below_size HW.zb) : w.heap.size ≤ gb294)); replace HB := Aside0.mk (below_step HW.zb hb); (try clear hg1); (try clear hg2); have hg1 := (HB.out.cell (World.block_lt_of_cell? w _ hgw1)).trans hgw1; have hg2 := (HB.out.cell (World.block_lt_of_cell? w _ hgw2)).trans hgw2; clear hb hbox hg))
      replace HO0 := Aside0.mk (Kd.V_drew HO0.out); replace BK294 := Aside0.mk (blk_drew BK294.out); replace HB := Aside0.mk (below_drew1 HB.out)
      (try clear hg1)
      (try clear hg2)
      have hg1 := (HB.out.cell (World.block_lt_of_cell? w _ hgw1)).trans hgw1; have hg2 := (HB.out.cell (World.block_lt_of_cell? w _ hgw2)).trans hgw2
      refine start_ (n := 4) (S := fun w' => w'.cell? ⟨2, 0, none⟩ = some (.iface 260 (.pointer (some (ρ 2))))) (ds := []) #[ff,ff,ff,ff] (by kernel_rfl) rfl rfl (((HB.out.cell (World.block_lt_of_cell? w _ hgw2)).trans hgw2)) (fun hHeld => ?_)
      generalize w4.drew = w5 at HO0 BK294 HB hHeld ⊢
      refine HW.pz (i := 0) (N := some 18) #[tt,ff,ff,ff] ?_
      refine take_ (i := 1) (N := some 19) (v := ?_) (a' := ?_) #[tt,tt,ff,ff] rfl rfl (by kernel_rfl) (fun _ _ _ h => h) (Or.inl ⟨by rfl, ?_⟩) hHeld ?_ ?_
      rotate_left
      · intro w' s0
        go_simp
        with_reducible rfl
      rotate_left
      · exact HW.pt
      refine one_ (i := 2) (N := none) #[tt,tt,tt,ff] rfl rfl (by kernel_rfl) (by decide) (fun K hK => ?_)
      have hs6 : w5.cell? ⟨gb294, 0, none⟩ = some (.int .u8 0) := (blk_cell BK294.out 0).trans rfl; have hfs6 := blk_frozen BK294.out 0; have hs7 : w5.cell? ⟨gb294, 1, none⟩ = some (.slice none 0 0) := (blk_cell BK294.out 1).trans rfl; have hfs7 := blk_frozen BK294.out 1
      refine skip_ (w1 := ?_) (by rfl) rfl ?_ ?_
      rotate_left
      · go_simp
        rfl
      refine hK.out _ _ (((cell_far (p := ⟨gb294, _, none⟩) (by first | exact Nat.ne_of_lt (Nat.lt_of_lt_of_le (World.block_lt_of_cell? _ _ hgw2) GW294.out) | (rw [add_block]; exact Nat.ne_of_lt (Nat.lt_of_lt_of_le (World.block_lt_of_cell? _ _ hgw2) GW294.out)) | (show (Addr.add _ _).block ≠ _; rw [add_block]; exact Nat.ne_of_lt (Nat.lt_of_lt_of_le (World.block_lt_of_cell? _ _ hgw2) GW294.out)) | (dsimp only; exact Nat.ne_of_lt (Nat.lt_of_lt_of_le (World.block_lt_of_cell? _ _ hgw2) GW294.out))) _).trans (((cell_far (p := ⟨gb294, _, none⟩) (by first | exact Nat.ne_of_lt (Nat.lt_of_lt_of_le (World.block_lt_of_cell? _ _ hgw2) GW294.out) | (rw [add_block]; exact Nat.ne_of_lt (Nat.lt_of_lt_of_le (World.block_lt_of_cell? _ _ hgw2) GW294.out)) | (show (Addr.add _ _).block ≠ _; rw [add_block]; exact Nat.ne_of_lt (Nat.lt_of_lt_of_le (World.block_lt_of_cell? _ _ hgw2) GW294.out)) | (dsimp only; exact Nat.ne_of_lt (Nat.lt_of_lt_of_le (World.block_lt_of_cell? _ _ hgw2) GW294.out))) _).trans (hHeld))))) (fun hHeld => ?_)
      clear hK K
      refine HW.pz (i := 3) (N := some 5) #[tt,tt,tt,tt] ?_
      refine done_ (by kernel_rfl) ?_
      try go_wp2
      refine bodyPost_ret (results_ct rfl _ _ gb294 67 #[.int .u8 0, .slice none 0 0] (0, 0) _ rfl (by (with_reducible repeat (first | refine blk_drewN ?_ _ | refine blk_drew ?_ | refine blk_alloc ?_ _)); refine blk_put (cs := #[.int .u8 0, .slice none 0 0]) ?_ 1 _ rfl; (with_reducible repeat (first | refine blk_drewN ?_ _ | refine blk_drew ?_ | refine blk_alloc ?_ _)); refine blk_put (cs := #[.int .u8 0, .slice none 0 0]) ?_ 0 _ rfl; exact HW.zB BK294.out) Tryz.underlying67 rfl (by kernel_rfl)) rfl ?_
      exact ⟨_, _, rfl, (by first | exact Er.ErrR.nil | (refine Aside0.out ?_; first | with_reducible assumption | assumption) | exact Er.ErrR.val _ | exact Er.ErrR.mal _ | exact Er.ErrR.dep _ _ | (refine Er.ErrR.few _ _ ?_ ?_ <;> first | exact ⟨_, _, _, rfl⟩ | (refine Er.isl_V (Aside0.out ?_); with_reducible assumption)) | (refine Er.ErrR.sent _ _ ?_ ?_ <;> decide)), Kd.V_nil _ _ _ _ _, HW.zb⟩
  rw [if_neg c3] at H; have c3b0 : decide ((l1.length : Int) < 1) = false := decide_eq_false c3
  have c3b1 : decide (l1.length < 1) = false := decide_eq_false (by omega)
  clear c3; replace H := Option.bind_eq_some_iff.mp H; obtain ⟨⟨t295, t296, t299⟩, A80, H⟩ := H; replace H : (if t299 = true then (bsoncore_Document_LookupErr.l0 k l1 (wrap32 (t295 - 4)) t296) else (none)) = some (r1, r2, r3) := H; have A8 := Aside0.mk A80; clear A80
  by_cases c9 : t299 = true
  rotate_left
  · replace c9 := Bool.eq_false_iff.mpr c9
    subst c9
    have H1 : (none) = some (r1, r2, r3) := by rw [if_neg (show ¬ (false = true) by decide)] at H; exact H
    clear H; have H := H1; clear H1
    exact absurd H (by simp)
  subst c9
  have H1 : (bsoncore_Document_LookupErr.l0 k l1 (wrap32 (t295 - 4)) t296) = some (r1, r2, r3) := by rw [if_pos rfl] at H; exact H
  clear H; have H := H1; clear H1; have H' := Aside0.mk H; clear H; have hg1 := hgw1; have hg2 := hgw2
  go_enter Tryz.func35, Tryz.ntmps35
  go_wp2_with (first | ((with_reducible refine gate_dst (N := 4) rfl ?_); refine box_event ?hg (N := 4) ?hd (cs := #[.int .u8 0, .slice none 0 0]) (t := 67) ?hr ?_; (case hd => rfl); (case hg => rfl); (case hr => first | (go_simp; done) | (go_simp; rfl)); intro gb294 hg w10 hbox hb; replace HO0 := Aside0.mk (Kd.V_below (Kd.V_elderB (HW.zV HO0.out) gb294 (Nat.le_of_eq hg.symm)) hb); have BK294 := Aside0.mk (hbox); have GW294 := Aside0.mk ((by rw [hg]; exact (below_size HW.zb) : w.heap.size ≤ gb294)); have GE294 := Aside0.mk ((by rw [hg]; exact (below_size HW.zb) : w.heap.size ≤ gb294)); replace HB := Aside0.mk (below_step HW.zb hb); (try clear hg1); (try clear hg2); have hg1 := (HB.out.cell (World.block_lt_of_cell? w _ hgw1)).trans hgw1; have hg2 := (HB.out.cell (World.block_lt_of_cell? w _ hgw2)).trans hgw2; clear hb hbox hg) | ((with_reducible refine gate_callee (f := 74) rfl ?_); refine HW.gz (some 22) rfl rfl Tryz.func74 (by kernel_rfl) rfl #[.slice A0 l0.length c0] rfl ?_; (with_reducible refine (bsoncore_ReadLength.calls (fun k_ => ((P0_ k_ ∨ w.heap.size ≤ k_) ∧ k_ ≠ gb294)) _ _ l0 t295 t296 true _ ?side1 A8.out).mono ?_); (case side1 => exact HO0.out); rintro e w11 ⟨v297, rfl, ho0, hb⟩; refine ⟨_, rfl, ?_⟩; have HO298 := Aside0.mk (Kd.V_lower (Kd.V_mono (ok' := fun k_ => (P0_ k_ ∨ w.heap.size ≤ k_) ∧ k_ ≠ gb294) ho0 (fun k_ hk_ => ⟨Or.elim hk_ (fun hs_ => hs_.1) (fun hn_ => (.inr (Nat.le_trans (below_size HW.zb) hn_))), Or.elim hk_ (fun hs_ => hs_.2) (fun hn_ => (Kd.freshB (g := gb294) (o := .cells #[.int .u8 0, .slice none 0 0] 67 (0, 0)) (HW.zB BK294.out) k_ hn_))⟩)) (below_size HW.zb)); replace BK294 := Aside0.mk (blk_below (HW.zB BK294.out) hb); replace HB := Aside0.mk (below_step HW.zb hb); (try clear hg1); (try clear hg2); have hg1 := (HB.out.cell (World.block_lt_of_cell? w _ hgw1)).trans hgw1; have hg2 := (HB.out.cell (World.block_lt_of_cell? w _ hgw2)).trans hgw2; (try clear hb); (try clear ho0)))
  go_loopg [6, 7] k (fun kq v6 v7 w' => ∃ (x6_1 : Int) (x7_1 : List Int) (x295000_1 : Int), v6 = .int .i32 x6_1 ∧ Aside0 (bsoncore_Document_LookupErr.l0 kq l1 x6_1 x7_1 = some (r1, r2, r3)) ∧ Aside0 (kq ≤ k) ∧ Aside0 (Kd.V (Kd.int .u8) 5 w' w.heap.size (fun k_ => (P0_ k_ ∨ w.heap.size ≤ k_) ∧ k_ ≠ gb294) v7 x7_1) ∧ Aside0 (w'.heap[gb294]? = some (.cells #[.int .u8 x295000_1, (.slice none 0 0)] 67 (0, 0))) ∧ Aside0 (Below w.heap.size w w'))
  case atStart => exact ⟨(wrap32 (t295 - 4)), (t296), (0), HW.rs, H', ⟨Nat.le_refl _⟩, ⟨HW.zV HO298.out⟩, ⟨by (with_reducible repeat (first | refine blk_drewN ?_ _ | refine blk_drew ?_ | refine blk_alloc ?_ _)); exact BK294.out⟩, ⟨HW.zb⟩⟩
  case round =>
    clear H'
    (try clear c1); (try clear p2); (try clear c3); (try clear c3b0); (try clear c3b1); (try clear p3); (try clear c7); (try clear c9)
    obtain ⟨x6_1, x7_1, x295000_1, rfl, HA, HK1, HO_7, BK294, HB⟩ := hrel
    (try clear hg1)
    (try clear hg2)
    have hg1 := (HB.out.cell (World.block_lt_of_cell? w _ hgw1)).trans hgw1; have hg2 := (HB.out.cell (World.block_lt_of_cell? w _ hgw2)).trans hgw2
    cases gk with
    | zero => exact absurd HA.out (by simp [bsoncore_Document_LookupErr.l0])
    | succ k1 =>
      have H := HA.out; clear HA
      simp only [bsoncore_Document_LookupErr.l0] at H
      by_cases c12 : x6_1 > 1
      rotate_left
      · rw [if_neg c12] at H
        have c12b0 : decide (1 < x6_1) = false := decide_eq_false c12; clear c12
        as_aux_lemma =>
          simp only [Option.some.injEq, Prod.mk.injEq] at H
          obtain ⟨rfl, rfl, rfl⟩ := H
          try go_wp2
          replace HO_7 := Aside0.mk (Kd.V_drew HO_7.out); replace BK294 := Aside0.mk (blk_drew BK294.out); replace HB := Aside0.mk (below_drew1 HB.out)
          (try clear hg1)
          (try clear hg2)
          have hg1 := (HB.out.cell (World.block_lt_of_cell? w _ hgw1)).trans hgw1; have hg2 := (HB.out.cell (World.block_lt_of_cell? w _ hgw2)).trans hgw2
          refine start_ (n := 4) (S := fun w' => w'.cell? ⟨1, 0, none⟩ = some (.iface 260 (.pointer (some (ρ 1))))) (ds := []) #[ff,ff,ff,ff] (by kernel_rfl) rfl rfl (((HB.out.cell (World.block_lt_of_cell? w _ hgw1)).trans hgw1)) (fun hHeld => ?_)
          generalize wr.drew = w151 at HO_7 BK294 HB hHeld ⊢
          refine HW.pz (i := 0) (N := some 111) #[tt,ff,ff,ff] ?_
          refine take_ (i := 1) (N := some 112) (v := ?_) (a' := ?_) #[tt,tt,ff,ff] rfl rfl (by kernel_rfl) (fun _ _ _ h => h) (Or.inl ⟨by rfl, ?_⟩) hHeld ?_ ?_
          rotate_left
          · intro w' s0
            go_simp
            with_reducible rfl
          rotate_left
          · exact HW.pt
          refine one_ (i := 2) (N := none) #[tt,tt,tt,ff] rfl rfl (by kernel_rfl) (by decide) (fun K hK => ?_)
          have hs152 : w151.cell? ⟨gb294, 0, none⟩ = some (.int .u8 x295000_1) := (blk_cell BK294.out 0).trans rfl; have hfs152 := blk_frozen BK294.out 0; have hs153 : w151.cell? ⟨gb294, 1, none⟩ = some (.slice none 0 0) := (blk_cell BK294.out 1).trans rfl; have hfs153 := blk_frozen BK294.out 1
          refine skip_ (w1 := ?_) (by rfl) rfl ?_ ?_
          rotate_left
          · go_simp
            rfl
          refine hK.out _ _ (((cell_far (p := ⟨gb294, _, none⟩) (by first | exact Nat.ne_of_lt (Nat.lt_of_lt_of_le (World.block_lt_of_cell? _ _ hgw1) GW294.out) | (rw [add_block]; exact Nat.ne_of_lt (Nat.lt_of_lt_of_le (World.block_lt_of_cell? _ _ hgw1) GW294.out)) | (show (Addr.add _ _).block ≠ _; rw [add_block]; exact Nat.ne_of_lt (Nat.lt_of_lt_of_le (World.block_lt_of_cell? _ _ hgw1) GW294.out)) | (dsimp only; exact Nat.ne_of_lt (Nat.lt_of_lt_of_le (World.block_lt_of_cell? _ _ hgw1) GW294.out))) _).trans (((cell_far (p := ⟨gb294, _, none⟩) (by first | exact Nat.ne_of_lt (Nat.lt_of_lt_of_le (World.block_lt_of_cell? _ _ hgw1) GW294.out) | (rw [add_block]; exact Nat.ne_of_lt (Nat.lt_of_lt_of_le (World.block_lt_of_cell? _ _ hgw1) GW294.out)) | (show (Addr.add _ _).block ≠ _; rw [add_block]; exact Nat.ne_of_lt (Nat.lt_of_lt_of_le (World.block_lt_of_cell? _ _ hgw1) GW294.out)) | (dsimp only; exact Nat.ne_of_lt (Nat.lt_of_lt_of_le (World.block_lt_of_cell? _ _ hgw1) GW294.out))) _).trans (hHeld))))) (fun hHeld => ?_)
          clear hK K
          refine HW.pz (i := 3) (N := some 5) #[tt,tt,tt,tt] ?_
          refine done_ (by kernel_rfl) ?_
          try go_wp2
          refine bodyPost_ret (results_ct rfl _ _ gb294 67 #[.int .u8 0, .slice none 0 0] (0, 0) _ rfl (by (with_reducible repeat (first | refine blk_drewN ?_ _ | refine blk_drew ?_ | refine blk_alloc ?_ _)); refine blk_put (cs := #[.int .u8 0, .slice none 0 0]) ?_ 1 _ rfl; (with_reducible repeat (first | refine blk_drewN ?_ _ | refine blk_drew ?_ | refine blk_alloc ?_ _)); refine blk_put (cs := #[.int .u8 x295000_1, .slice none 0 0]) ?_ 0 _ rfl; exact HW.zB BK294.out) Tryz.underlying67 rfl (by kernel_rfl)) rfl ?_
          exact ⟨_, _, rfl, (by first | exact Er.ErrR.nil | (refine Aside0.out ?_; first | with_reducible assumption | assumption) | exact Er.ErrR.val _ | exact Er.ErrR.mal _ | exact Er.ErrR.dep _ _ | (refine Er.ErrR.few _ _ ?_ ?_ <;> first | exact ⟨_, _, _, rfl⟩ | (refine Er.isl_V (Aside0.out ?_); with_reducible assumption)) | (refine Er.ErrR.sent _ _ ?_ ?_ <;> decide)), Kd.V_nil _ _ _ _ _, HW.zb⟩
      rw [if_pos c12] at H; have c12b0 : decide (1 < x6_1) = true := decide_eq_true c12; clear c12; replace H := Option.bind_eq_some_iff.mp H; obtain ⟨⟨t300, t303, t306⟩, A130, H⟩ := H
      replace H : (if t306 = true then ((bsoncore_Element_KeyBytes.f t300).bind fun t307 => (if 0 < (l1.length : Int) then (if (strOfNums t307).toList = (rdOf ByteArray.empty l1 0).toList then (if (l1.length : Int) > 1 then (if 0 < (t300.length : Int) then (if (rd t300 0) = 3 then ((bsoncore_Element_Value.f k1 t300).bind fun bt312 => ((bsoncore_Value_Document.f bt312.1 bt312.2).bind fun t316 => (if 1 ≤ (l1.length : Int) then ((bsoncore_Document_LookupErr.f k1 t316 (l1.drop 1)).bind fun bt320 => (if bt320.2.2.isNone = true then (some (bt320.1, bt320.2.1, none)) else (some (0, ([] : List Int), bt320.2.2)))) else (none)))) else (if (rd t300 0) = 4 then ((bsoncore_Element_Value.f k1 t300).bind fun bt327 => ((bsoncore_Value_Array.f bt327.1 bt327.2).bind fun t331 => (if 1 ≤ (l1.length : Int) then ((bsoncore_Document_LookupErr.f k1 t331 (l1.drop 1)).bind fun bt335 => (if bt335.2.2.isNone = true then (some (bt335.1, bt335.2.1, none)) else (some (0, ([] : List Int), bt335.2.2)))) else (none)))) else ((bsoncore_Element_Key.f t300).bind fun t342 => (some (0, ([] : List Int), some (95, t342)))))) else (none)) else ((bsoncore_Element_ValueErr.f k1 t300).bind fun bt343 => (some (bt343.1, bt343.2.1, bt343.2.2)))) else (bsoncore_Document_LookupErr.l0 k1 l1 (wrap32 (x6_1 - (wrap32 ((t300.length : Int))))) t303)) else (none))) else (none)) = some (r1, r2, r3) := H
      have A13 := Aside0.mk A130; clear A130
      by_cases c14 : t306 = true
      rotate_left
      · replace c14 := Bool.eq_false_iff.mpr c14
        subst c14
        have H1 : (none) = some (r1, r2, r3) := by rw [if_neg (show ¬ (false = true) by decide)] at H; exact H
        clear H; have H := H1; clear H1
        exact absurd H (by simp)
      subst c14
      have H1 : ((bsoncore_Element_KeyBytes.f t300).bind fun t307 => (if 0 < (l1.length : Int) then (if (strOfNums t307).toList = (rdOf ByteArray.empty l1 0).toList then (if (l1.length : Int) > 1 then (if 0 < (t300.length : Int) then (if (rd t300 0) = 3 then ((bsoncore_Element_Value.f k1 t300).bind fun bt312 => ((bsoncore_Value_Document.f bt312.1 bt312.2).bind fun t316 => (if 1 ≤ (l1.length : Int) then ((bsoncore_Document_LookupErr.f k1 t316 (l1.drop 1)).bind fun bt320 => (if bt320.2.2.isNone = true then (some (bt320.1, bt320.2.1, none)) else (some (0, ([] : List Int), bt320.2.2)))) else (none)))) else (if (rd t300 0) = 4 then ((bsoncore_Element_Value.f k1 t300).bind fun bt327 => ((bsoncore_Value_Array.f bt327.1 bt327.2).bind fun t331 => (if 1 ≤ (l1.length : Int) then ((bsoncore_Document_LookupErr.f k1 t331 (l1.drop 1)).bind fun bt335 => (if bt335.2.2.isNone = true then (some (bt335.1, bt335.2.1, none)) else (some (0, ([] : List Int), bt335.2.2)))) else (none)))) else ((bsoncore_Element_Key.f t300).bind fun t342 => (some (0, ([] : List Int), some (95, t342)))))) else (none)) else ((bsoncore_Element_ValueErr.f k1 t300).bind fun bt343 => (some (bt343.1, bt343.2.1, bt343.2.2)))) else (bsoncore_Document_LookupErr.l0 k1 l1 (wrap32 (x6_1 - (wrap32 ((t300.length : Int))))) t303)) else (none))) = some (r1, r2, r3) := by rw [if_pos rfl] at H; exact H
      clear H; have H := H1; clear H1; replace H := Option.bind_eq_some_iff.mp H; obtain ⟨t307, A150, H⟩ := H
      replace H : (if 0 < (l1.length : Int) then (if (strOfNums t307).toList = (rdOf ByteArray.empty l1 0).toList then (if (l1.length : Int) > 1 then (if 0 < (t300.length : Int) then (if (rd t300 0) = 3 then ((bsoncore_Element_Value.f k1 t300).bind fun bt312 => ((bsoncore_Value_Document.f bt312.1 bt312.2).bind fun t316 => (if 1 ≤ (l1.length : Int) then ((bsoncore_Document_LookupErr.f k1 t316 (l1.drop 1)).bind fun bt320 => (if bt320.2.2.isNone = true then (some (bt320.1, bt320.2.1, none)) else (some (0, ([] : List Int), bt320.2.2)))) else (none)))) else (if (rd t300 0) = 4 then ((bsoncore_Element_Value.f k1 t300).bind fun bt327 => ((bsoncore_Value_Array.f bt327.1 bt327.2).bind fun t331 => (if 1 ≤ (l1.length : Int) then ((bsoncore_Document_LookupErr.f k1 t331 (l1.drop 1)).bind fun bt335 => (if bt335.2.2.isNone = true then (some (bt335.1, bt335.2.1, none)) else (some (0, ([] : List Int), bt335.2.2)))) else (none)))) else ((bsoncore_Element_Key.f t300).bind fun t342 => (some (0, ([] : List Int), some (95, t342)))))) else (none)) else ((bsoncore_Element_ValueErr.f k1 t300).bind fun bt343 => (some (bt343.1, bt343.2.1, bt343.2.2)))) else (bsoncore_Document_LookupErr.l0 k1 l1 (wrap32 (x6_1 - (wrap32 ((t300.length : Int))))) t303)) else (none)) = some (r1, r2, r3) := H
      have A15 := Aside0.mk A150; clear A150
      by_cases c16 : 0 < (l1.length : Int)
      rotate_left
      · rw [if_neg c16] at H
        exact absurd H (by simp)
      rw [if_pos c16] at H; have c16b0 : decide (0 < (l1.length : Int)) = true := decide_eq_true c16
      have c16b1 : decide (0 < l1.length) = true := decide_eq_true (by omega)
      clear c16
      by_cases c17 : (strOfNums t307).toList = (rdOf ByteArray.empty l1 0).toList
      rotate_left
      · rw [if_neg c17] at H
        have c17b0 : ((strOfNums t307).toList == (rdOf ByteArray.empty l1 0).toList) = false := beq_eq_false_iff_ne.mpr c17; have c17b1 : ((strOfNums t307).toList != (rdOf ByteArray.empty l1 0).toList) = true := bne_iff_ne.mpr c17
        as_aux_lemma =>
          have H' := Aside0.mk H; clear H; obtain ⟨Ao145, co145, eo145⟩ := Kd.V_slice HO_7.out; subst eo145
          try go_wp2_with (first | ((with_reducible refine gate_callee (f := 76) rfl ?_); refine HW.gz (some 39) rfl rfl Tryz.func76 (by kernel_rfl) rfl #[.slice Ao145 x7_1.length co145] rfl ?_; (with_reducible refine (bsoncore_ReadElement.calls k1 (fun k_ => ((P0_ k_ ∨ w.heap.size ≤ k_) ∧ k_ ≠ gb294)) _ _ x7_1 t300 t303 true _ ?side1 A13.out).mono ?_); (case side1 => exact HO_7.out); rintro e w146 ⟨v301, v304, rfl, ho0, ho1, hb⟩; refine ⟨_, rfl, ?_⟩; replace HO_7 := Aside0.mk (Kd.V_below (HW.zV HO_7.out) hb); have HO302 := Aside0.mk (Kd.V_lower (Kd.V_mono (ok' := fun k_ => (P0_ k_ ∨ w.heap.size ≤ k_) ∧ k_ ≠ gb294) ho0 (fun k_ hk_ => ⟨Or.elim hk_ (fun hs_ => hs_.1) (fun hn_ => (.inr (Nat.le_trans (below_size HW.zb) hn_))), Or.elim hk_ (fun hs_ => hs_.2) (fun hn_ => (Kd.freshB (g := gb294) (o := .cells #[.int .u8 x295000_1, .slice none 0 0] 67 (0, 0)) (HW.zB BK294.out) k_ hn_))⟩)) (below_size HW.zb)); have HO305 := Aside0.mk (Kd.V_lower (Kd.V_mono (ok' := fun k_ => (P0_ k_ ∨ w.heap.size ≤ k_) ∧ k_ ≠ gb294) ho1 (fun k_ hk_ => ⟨Or.elim hk_ (fun hs_ => hs_.1) (fun hn_ => (.inr (Nat.le_trans (below_size HW.zb) hn_))), Or.elim hk_ (fun hs_ => hs_.2) (fun hn_ => (Kd.freshB (g := gb294) (o := .cells #[.int .u8 x295000_1, .slice none 0 0] 67 (0, 0)) (HW.zB BK294.out) k_ hn_))⟩)) (below_size HW.zb)); replace BK294 := Aside0.mk (blk_below (HW.zB BK294.out) hb); replace HB := Aside0.mk (below_step HW.zb hb); (try clear hg1); (try clear hg2); have hg1 := (HB.out.cell (World.block_lt_of_cell? w _ hgw1)).trans hgw1; have hg2 := (HB.out.cell (World.block_lt_of_cell? w _ hgw2)).trans hgw2; (try clear hb); (try clear ho0); (try clear ho1); obtain ⟨Ao147, co147, eo147⟩ := Kd.V_slice HO302.out; subst eo147))
          replace HO_7 := Aside0.mk (Kd.V_drew HO_7.out); replace HO302 := Aside0.mk (Kd.V_drew HO302.out); replace HO305 := Aside0.mk (Kd.V_drew HO305.out); replace BK294 := Aside0.mk (blk_drew BK294.out); replace HB := Aside0.mk (below_drew1 HB.out)
          (try clear hg1)
          (try clear hg2)
          have hg1 := (HB.out.cell (World.block_lt_of_cell? w _ hgw1)).trans hgw1; have hg2 := (HB.out.cell (World.block_lt_of_cell? w _ hgw2)).trans hgw2
          have p310 : 0 ≤ (0 : Int) := (by omega)
          have q310 : 0 < (l1.length : Int) := HW.od
          obtain ⟨ad310, e310, hx310_0⟩ := Kd.at_string HR1.out 0 p310 q310; have hw310_0 := hx310_0
          (try rw [show ((0 : Int)).toNat = 0 from rfl] at hw310_0)
          (try rw [show 0 * 1 = 0 from rfl] at hw310_0)
          (try rw [Addr.add_zero'] at hw310_0)
          cases e310
          have qi310 : (0 < l1.length) = True := eq_true (by omega)
          (try rw [show ((0 : Int)).toNat = 0 from rfl] at hx310_0)
          (try rw [Addr.add_zero'] at hx310_0)
          replace hx310_0 := (HB.out.cell (World.block_lt_of_cell? w _ hx310_0)).trans hx310_0; replace p310 := eq_true p310; replace q310 := eq_true q310
          refine start_ (n := 7) (S := fun w' => w'.cell? ad310 = some (.string (rdOf ByteArray.empty l1 0))) (ds := []) #[ff,ff,ff,ff,ff,ff,ff] (by kernel_rfl) rfl rfl (((HB.out.cell (World.block_lt_of_cell? w _ hw310_0)).trans hw310_0)) (fun hHeld => ?_)
          generalize w146.drew = w148 at HO_7 HO302 HO305 BK294 HB hx310_0 hHeld ⊢
          refine HW.pz (i := 0) (N := some 55) #[tt,ff,ff,ff,ff,ff,ff] ?_
          refine HW.pz (i := 3) (N := some 58) #[tt,ff,ff,tt,ff,ff,ff] ?_
          refine HW.pz (i := 4) (N := some 59) #[tt,ff,ff,tt,tt,ff,ff] ?_
          refine take_ (i := 5) (N := some 60) (v := ?_) (a' := ?_) #[tt,ff,ff,tt,tt,tt,ff] rfl rfl (by kernel_rfl) (fun _ _ _ h => h) (Or.inl ⟨by rfl, ?_⟩) hHeld ?_ ?_
          rotate_left
          · intro w' s0
            go_simp
            with_reducible rfl
          rotate_left
          · exact HW.pt
          refine one_ (i := 1) (N := some 56) #[tt,tt,ff,tt,tt,tt,ff] rfl rfl (by kernel_rfl) (by decide) (fun K hK => ?_)
          refine goes_ Tryz.func77 (by kernel_rfl) rfl #[.slice Ao147 t300.length co147] (by rfl) rfl rfl HW.mt ?_
          with_reducible refine (bsoncore_Element_KeyBytes.calls (fun k_ => ((P0_ k_ ∨ w.heap.size ≤ k_) ∧ k_ ≠ gb294)) _ _ t300 t307 _ ?side1 A15.out).mono ?_
          (case side1 => exact HO302.out)
          rintro e w149 ⟨v308, rfl, ho0, hb⟩
          refine ⟨_, rfl, ?_⟩
          replace HO_7 := Aside0.mk (Kd.V_below (HW.zV HO_7.out) hb); replace HO302 := Aside0.mk (Kd.V_below (HW.zV HO302.out) hb); replace HO305 := Aside0.mk (Kd.V_below (HW.zV HO305.out) hb); have HO309 := Aside0.mk (Kd.V_lower (Kd.V_mono (ok' := fun k_ => (P0_ k_ ∨ w.heap.size ≤ k_) ∧ k_ ≠ gb294) ho0 (fun k_ hk_ => ⟨Or.elim hk_ (fun hs_ => hs_.1) (fun hn_ => (.inr (Nat.le_trans (below_size HW.zb) hn_))), Or.elim hk_ (fun hs_ => hs_.2) (fun hn_ => (Kd.freshB (g := gb294) (o := .cells #[.int .u8 x295000_1, .slice none 0 0] 67 (0, 0)) (HW.zB BK294.out) k_ hn_))⟩)) (below_size HW.zb)); replace BK294 := Aside0.mk (blk_below (HW.zB BK294.out) hb); replace HB := Aside0.mk (below_step HW.zb hb)
          (try clear hg1)
          (try clear hg2)
          have hg1 := (HB.out.cell (World.block_lt_of_cell? w _ hgw1)).trans hgw1; have hg2 := (HB.out.cell (World.block_lt_of_cell? w _ hgw2)).trans hgw2
          (try clear hb)
          (try clear hk)
          (try clear ho0)
          refine hK.out _ _ (((HB.out.cell (World.block_lt_of_cell? w _ hw310_0)).trans hw310_0)) (fun hHeld => ?_)
          clear hK K
          refine HW.nz (N := (some 56)) ?_
          refine one_ (i := 2) (N := some 57) #[tt,tt,tt,tt,tt,tt,ff] rfl rfl (by kernel_rfl) (by decide) (fun K hK => ?_)
          have hcv150 := HW.V_string (P := Tryz.prog) Tryz.underlying22 Tryz.underlying5 Tryz.underlying9 (HO309.out)
          refine value_ (w1 := ?_) (v := ?_) (by rfl) rfl ?_ ?_
          rotate_left 2
          · go_simp
            constructor
            · rfl
            rfl
          clear hcv150
          refine hK.out _ _ (((HB.out.cell (World.block_lt_of_cell? w _ hw310_0)).trans hw310_0)) (fun hHeld => ?_)
          clear hK K
          refine HW.nz (N := (some 57)) ?_
          refine HW.pz (i := 6) (N := some 61) #[tt,tt,tt,tt,tt,tt,tt] ?_
          refine done_ (by kernel_rfl) ?_
          try go_wp2
          go_roundg k1
          case measure => have := HK1.out; omega
          case rel => exact ⟨(wrap32 (x6_1 - (wrap32 ((t300.length : Int))))), (t303), (x295000_1), HW.rs, H', ⟨by have := HK1.out; omega⟩, ⟨HW.zV HO305.out⟩, ⟨by (with_reducible repeat (first | refine blk_drewN ?_ _ | refine blk_drew ?_ | refine blk_alloc ?_ _)); exact BK294.out⟩, ⟨HW.zb⟩⟩
      rw [if_pos c17] at H; have c17b0 : ((strOfNums t307).toList == (rdOf ByteArray.empty l1 0).toList) = true := beq_iff_eq.mpr c17; have c17b1 : ((strOfNums t307).toList != (rdOf ByteArray.empty l1 0).toList) = false := bne_eq_false_iff_eq.mpr c17; clear c17
      by_cases c18 : (l1.length : Int) > 1
      rotate_left
      · rw [if_neg c18] at H
        have c18b0 : decide (1 < (l1.length : Int)) = false := decide_eq_false c18
        have c18b1 : decide (1 < l1.length) = false := decide_eq_false (by omega)
        clear c18; replace H := Option.bind_eq_some_iff.mp H; obtain ⟨⟨t343, t344, t347⟩, A1340, H⟩ := H; replace H : (some (t343, t344, t347)) = some (r1, r2, r3) := H; have A134 := Aside0.mk A1340; clear A1340
        as_aux_lemma =>
          simp only [Option.some.injEq, Prod.mk.injEq] at H
          obtain ⟨rfl, rfl, rfl⟩ := H; obtain ⟨Ao135, co135, eo135⟩ := Kd.V_slice HO_7.out; subst eo135
          try go_wp2_with (first | ((with_reducible refine gate_callee (f := 76) rfl ?_); refine HW.gz (some 39) rfl rfl Tryz.func76 (by kernel_rfl) rfl #[.slice Ao135 x7_1.length co135] rfl ?_; (with_reducible refine (bsoncore_ReadElement.calls k1 (fun k_ => ((P0_ k_ ∨ w.heap.size ≤ k_) ∧ k_ ≠ gb294)) _ _ x7_1 t300 t303 true _ ?side1 A13.out).mono ?_); (case side1 => exact HO_7.out); rintro e w136 ⟨v301, v304, rfl, ho0, ho1, hb⟩; refine ⟨_, rfl, ?_⟩; replace HO_7 := Aside0.mk (Kd.V_below (HW.zV HO_7.out) hb); have HO302 := Aside0.mk (Kd.V_lower (Kd.V_mono (ok' := fun k_ => (P0_ k_ ∨ w.heap.size ≤ k_) ∧ k_ ≠ gb294) ho0 (fun k_ hk_ => ⟨Or.elim hk_ (fun hs_ => hs_.1) (fun hn_ => (.inr (Nat.le_trans (below_size HW.zb) hn_))), Or.elim hk_ (fun hs_ => hs_.2) (fun hn_ => (Kd.freshB (g := gb294) (o := .cells #[.int .u8 x295000_1, .slice none 0 0] 67 (0, 0)) (HW.zB BK294.out) k_ hn_))⟩)) (below_size HW.zb)); have HO305 := Aside0.mk (Kd.V_lower (Kd.V_mono (ok' := fun k_ => (P0_ k_ ∨ w.heap.size ≤ k_) ∧ k_ ≠ gb294) ho1 (fun k_ hk_ => ⟨Or.elim hk_ (fun hs_ => hs_.1) (fun hn_ => (.inr (Nat.le_trans (below_size HW.zb) hn_))), Or.elim hk_ (fun hs_ => hs_.2) (fun hn_ => (Kd.freshB (g := gb294) (o := .cells #[.int .u8 x295000_1, .slice none 0 0] 67 (0, 0)) (HW.zB BK294.out) k_ hn_))⟩)) (below_size HW.zb)); replace BK294 := Aside0.mk (blk_below (HW.zB BK294.out) hb); replace HB := Aside0.mk (below_step HW.zb hb); (try clear hg1); (try clear hg2); have hg1 := (HB.out.cell (World.block_lt_of_cell? w _ hgw1)).trans hgw1; have hg2 := (HB.out.cell (World.block_lt_of_cell? w _ hgw2)).trans hgw2; (try clear hb); (try clear ho0); (try clear ho1); obtain ⟨Ao137, co137, eo137⟩ := Kd.V_slice HO302.out; subst eo137))
          replace HO_7 := Aside0.mk (Kd.V_drew HO_7.out); replace HO302 := Aside0.mk (Kd.V_drew HO302.out); replace HO305 := Aside0.mk (Kd.V_drew HO305.out); replace BK294 := Aside0.mk (blk_drew BK294.out); replace HB := Aside0.mk (below_drew1 HB.out)
          (try clear hg1)
          (try clear hg2)
          have hg1 := (HB.out.cell (World.block_lt_of_cell? w _ hgw1)).trans hgw1; have hg2 := (HB.out.cell (World.block_lt_of_cell? w _ hgw2)).trans hgw2
          have p310 : 0 ≤ (0 : Int) := (by omega)
          have q310 : 0 < (l1.length : Int) := HW.od
          obtain ⟨ad310, e310, hx310_0⟩ := Kd.at_string HR1.out 0 p310 q310; have hw310_0 := hx310_0
          (try rw [show ((0 : Int)).toNat = 0 from rfl] at hw310_0)
          (try rw [show 0 * 1 = 0 from rfl] at hw310_0)
          (try rw [Addr.add_zero'] at hw310_0)
          cases e310
          have qi310 : (0 < l1.length) = True := eq_true (by omega)
          (try rw [show ((0 : Int)).toNat = 0 from rfl] at hx310_0)
          (try rw [Addr.add_zero'] at hx310_0)
          replace hx310_0 := (HB.out.cell (World.block_lt_of_cell? w _ hx310_0)).trans hx310_0; replace p310 := eq_true p310; replace q310 := eq_true q310
          refine start_ (n := 7) (S := fun w' => w'.cell? ad310 = some (.string (rdOf ByteArray.empty l1 0))) (ds := []) #[ff,ff,ff,ff,ff,ff,ff] (by kernel_rfl) rfl rfl (((HB.out.cell (World.block_lt_of_cell? w _ hw310_0)).trans hw310_0)) (fun hHeld => ?_)
          generalize w136.drew = w138 at HO_7 HO302 HO305 BK294 HB hx310_0 hHeld ⊢
          refine HW.pz (i := 0) (N := some 55) #[tt,ff,ff,ff,ff,ff,ff] ?_
          refine HW.pz (i := 3) (N := some 58) #[tt,ff,ff,tt,ff,ff,ff] ?_
          refine HW.pz (i := 4) (N := some 59) #[tt,ff,ff,tt,tt,ff,ff] ?_
          refine take_ (i := 5) (N := some 60) (v := ?_) (a' := ?_) #[tt,ff,ff,tt,tt,tt,ff] rfl rfl (by kernel_rfl) (fun _ _ _ h => h) (Or.inl ⟨by rfl, ?_⟩) hHeld ?_ ?_
          rotate_left
          · intro w' s0
            go_simp
            with_reducible rfl
          rotate_left
          · exact HW.pt
          refine one_ (i := 1) (N := some 56) #[tt,tt,ff,tt,tt,tt,ff] rfl rfl (by kernel_rfl) (by decide) (fun K hK => ?_)
          refine goes_ Tryz.func77 (by kernel_rfl) rfl #[.slice Ao137 t300.length co137] (by rfl) rfl rfl HW.mt ?_
          with_reducible refine (bsoncore_Element_KeyBytes.calls (fun k_ => ((P0_ k_ ∨ w.heap.size ≤ k_) ∧ k_ ≠ gb294)) _ _ t300 t307 _ ?side1 A15.out).mono ?_
          (case side1 => exact HO302.out)
          rintro e w139 ⟨v308, rfl, ho0, hb⟩
          refine ⟨_, rfl, ?_⟩
          replace HO_7 := Aside0.mk (Kd.V_below (HW.zV HO_7.out) hb); replace HO302 := Aside0.mk (Kd.V_below (HW.zV HO302.out) hb); replace HO305 := Aside0.mk (Kd.V_below (HW.zV HO305.out) hb); have HO309 := Aside0.mk (Kd.V_lower (Kd.V_mono (ok' := fun k_ => (P0_ k_ ∨ w.heap.size ≤ k_) ∧ k_ ≠ gb294) ho0 (fun k_ hk_ => ⟨Or.elim hk_ (fun hs_ => hs_.1) (fun hn_ => (.inr (Nat.le_trans (below_size HW.zb) hn_))), Or.elim hk_ (fun hs_ => hs_.2) (fun hn_ => (Kd.freshB (g := gb294) (o := .cells #[.int .u8 x295000_1, .slice none 0 0] 67 (0, 0)) (HW.zB BK294.out) k_ hn_))⟩)) (below_size HW.zb)); replace BK294 := Aside0.mk (blk_below (HW.zB BK294.out) hb); replace HB := Aside0.mk (below_step HW.zb hb)
          (try clear hg1)
          (try clear hg2)
          have hg1 := (HB.out.cell (World.block_lt_of_cell? w _ hgw1)).trans hgw1; have hg2 := (HB.out.cell (World.block_lt_of_cell? w _ hgw2)).trans hgw2
          (try clear hb)
          (try clear hk)
          (try clear ho0)
          refine hK.out _ _ (((HB.out.cell (World.block_lt_of_cell? w _ hw310_0)).trans hw310_0)) (fun hHeld => ?_)
          clear hK K
          refine HW.nz (N := (some 56)) ?_
          refine one_ (i := 2) (N := some 57) #[tt,tt,tt,tt,tt,tt,ff] rfl rfl (by kernel_rfl) (by decide) (fun K hK => ?_)
          have hcv140 := HW.V_string (P := Tryz.prog) Tryz.underlying22 Tryz.underlying5 Tryz.underlying9 (HO309.out)
          refine value_ (w1 := ?_) (v := ?_) (by rfl) rfl ?_ ?_
          rotate_left 2
          · go_simp
            constructor
            · rfl
            rfl
          clear hcv140
          refine hK.out _ _ (((HB.out.cell (World.block_lt_of_cell? w _ hw310_0)).trans hw310_0)) (fun hHeld => ?_)
          clear hK K
          refine HW.nz (N := (some 57)) ?_
          refine HW.pz (i := 6) (N := some 61) #[tt,tt,tt,tt,tt,tt,tt] ?_
          refine done_ (by kernel_rfl) ?_
          try go_wp2_with (first | ((with_reducible refine gate_callee (f := 81) rfl ?_); refine HW.gz (some 108) rfl rfl Tryz.func81 (by kernel_rfl) rfl #[.slice Ao137 t300.length co137] rfl ?_; (with_reducible refine (bsoncore_Element_ValueErr.calls ρ k1 (fun k_ => ((P0_ k_ ∨ w.heap.size ≤ k_) ∧ k_ ≠ gb294)) _ _ t300 t343 t344 t347 _ ?side1 A134.out).mono ?_); (case side1 => exact HO302.out); rintro e w141 ⟨v345, ve_t347, rfl, hE_t347, ho0, hb⟩; refine ⟨_, rfl, ?_⟩; replace HO_7 := Aside0.mk (Kd.V_below (HW.zV HO_7.out) hb); replace HO302 := Aside0.mk (Kd.V_below (HW.zV HO302.out) hb); replace HO305 := Aside0.mk (Kd.V_below (HW.zV HO305.out) hb); replace HO309 := Aside0.mk (Kd.V_below (HW.zV HO309.out) hb); have HO346 := Aside0.mk (Kd.V_lower (Kd.V_mono (ok' := fun k_ => (P0_ k_ ∨ w.heap.size ≤ k_) ∧ k_ ≠ gb294) ho0 (fun k_ hk_ => ⟨Or.elim hk_ (fun hs_ => hs_.1) (fun hn_ => (.inr (Nat.le_trans (below_size HW.zb) hn_))), Or.elim hk_ (fun hs_ => hs_.2) (fun hn_ => (Kd.freshB (g := gb294) (o := .cells #[.int .u8 x295000_1, .slice none 0 0] 67 (0, 0)) (HW.zB BK294.out) k_ hn_))⟩)) (below_size HW.zb)); replace BK294 := Aside0.mk (blk_below (HW.zB BK294.out) hb); replace HB := Aside0.mk (below_step HW.zb hb); (try clear hg1); (try clear hg2); have hg1 := (HB.out.cell (World.block_lt_of_cell? w _ hgw1)).trans hgw1; have hg2 := (HB.out.cell (World.block_lt_of_cell? w _ hgw2)).trans hgw2; (try clear hb); (try clear ho0); (first | (obtain rfl := Er.ErrR.nil_ hE_t347) | (refine (Er.ErrR.some_ hE_t347 (Aside0.out ?hsE)).elim ?_; (case hsE => with_reducible assumption); rintro T_hE_t347 ⟨X_hE_t347, rfl⟩) | skip); replace hE_t347 := Aside0.mk hE_t347; obtain ⟨hcz142_0, hcz142_1, hfz143_0, hfz143_1⟩ := HW.k2f BK294.out; obtain ⟨Ao144, co144, eo144⟩ := Kd.V_slice HO346.out; subst eo144))
          refine bodyPost_ret (results_ct rfl _ _ gb294 67 #[.int .u8 t343, .slice Ao144 t344.length co144] (0, 0) _ rfl (by (with_reducible repeat (first | refine blk_drewN ?_ _ | refine blk_drew ?_ | refine blk_alloc ?_ _)); refine blk_put (cs := #[.int .u8 t343, .slice none 0 0]) ?_ 1 _ rfl; (with_reducible repeat (first | refine blk_drewN ?_ _ | refine blk_drew ?_ | refine blk_alloc ?_ _)); refine blk_put (cs := #[.int .u8 x295000_1, .slice none 0 0]) ?_ 0 _ rfl; exact HW.zB BK294.out) Tryz.underlying67 rfl (by kernel_rfl)) rfl ?_
          exact ⟨_, _, rfl, (by first | exact Er.ErrR.nil | (refine Aside0.out ?_; first | with_reducible assumption | assumption) | exact Er.ErrR.val _ | exact Er.ErrR.mal _ | exact Er.ErrR.dep _ _ | (refine Er.ErrR.few _ _ ?_ ?_ <;> first | exact ⟨_, _, _, rfl⟩ | (refine Er.isl_V (Aside0.out ?_); with_reducible assumption)) | (refine Er.ErrR.sent _ _ ?_ ?_ <;> decide)), by (with_reducible repeat (first | apply Kd.V_alloc | apply Kd.V_drewN | apply Kd.V_drew)); exact Kd.V_mono (Kd.V_far (p := ⟨gb294, 1, none⟩) (Kd.V_far (p := ⟨gb294, 0, none⟩) (Kd.V_mono HO346.out (fun k_ hk => (⟨hk, hk.2⟩ : _ ∧ k_ ≠ gb294))) (fun _ hk => hk.2) (.int .u8 t343)) (fun _ hk => hk.2) (.slice Ao144 t344.length co144)) (fun _ hk => hk.1.1), HW.zb⟩
      rw [if_pos c18] at H; have c18b0 : decide (1 < (l1.length : Int)) = true := decide_eq_true c18
      have c18b1 : decide (1 < l1.length) = true := decide_eq_true (by omega)
      clear c18
      by_cases c19 : 0 < (t300.length : Int)
      rotate_left
      · rw [if_neg c19] at H
        exact absurd H (by simp)
      rw [if_pos c19] at H; have c19b0 : decide (0 < (t300.length : Int)) = true := decide_eq_true c19
      have c19b1 : decide (0 < t300.length) = true := decide_eq_true (by omega)
      clear c19
      by_cases c20 : (rd t300 0) = 3
      · rw [if_pos c20] at H
        have c20b0 : ((rd t300 0) == 3) = true := beq_iff_eq.mpr c20; have c20b1 : ((rd t300 0) != 3) = false := bne_eq_false_iff_eq.mpr c20; clear c20; replace H := Option.bind_eq_some_iff.mp H; obtain ⟨⟨t312, t313⟩, A210, H⟩ := H; replace H : ((bsoncore_Value_Document.f t312 t313).bind fun t316 => (if 1 ≤ (l1.length : Int) then ((bsoncore_Document_LookupErr.f k1 t316 (l1.drop 1)).bind fun bt320 => (if bt320.2.2.isNone = true then (some (bt320.1, bt320.2.1, none)) else (some (0, ([] : List Int), bt320.2.2)))) else (none))) = some (r1, r2, r3) := H; have A21 := Aside0.mk A210; clear A210; replace H := Option.bind_eq_some_iff.mp H; obtain ⟨t316, A220, H⟩ := H; replace H : (if 1 ≤ (l1.length : Int) then ((bsoncore_Document_LookupErr.f k1 t316 (l1.drop 1)).bind fun bt320 => (if bt320.2.2.isNone = true then (some (bt320.1, bt320.2.1, none)) else (some (0, ([] : List Int), bt320.2.2)))) else (none)) = some (r1, r2, r3) := H; have A22 := Aside0.mk A220; clear A220
        by_cases c23 : 1 ≤ (l1.length : Int)
        rotate_left
        · rw [if_neg c23] at H
          exact absurd H (by simp)
        rw [if_pos c23] at H; have c23b0 := eq_true c23; have c23b1 : decide (1 ≤ (l1.length : Int)) = true := decide_eq_true c23; clear c23; replace H := Option.bind_eq_some_iff.mp H; obtain ⟨⟨t320, t321, t324⟩, A240, H⟩ := H; replace H : (if t324.isNone = true then (some (t320, t321, none)) else (some (0, ([] : List Int), t324))) = some (r1, r2, r3) := H; have A24 := Aside0.mk A240; clear A240
        as_aux_lemma =>
          obtain ⟨Ao51, co51, eo51⟩ := Kd.V_slice HO_7.out; subst eo51
          try go_wp2_with (first | ((with_reducible refine gate_callee (f := 76) rfl ?_); refine HW.gz (some 39) rfl rfl Tryz.func76 (by kernel_rfl) rfl #[.slice Ao51 x7_1.length co51] rfl ?_; (with_reducible refine (bsoncore_ReadElement.calls k1 (fun k_ => ((P0_ k_ ∨ w.heap.size ≤ k_) ∧ k_ ≠ gb294)) _ _ x7_1 t300 t303 true _ ?side1 A13.out).mono ?_); (case side1 => exact HO_7.out); rintro e w52 ⟨v301, v304, rfl, ho0, ho1, hb⟩; refine ⟨_, rfl, ?_⟩; replace HO_7 := Aside0.mk (Kd.V_below (HW.zV HO_7.out) hb); have HO302 := Aside0.mk (Kd.V_lower (Kd.V_mono (ok' := fun k_ => (P0_ k_ ∨ w.heap.size ≤ k_) ∧ k_ ≠ gb294) ho0 (fun k_ hk_ => ⟨Or.elim hk_ (fun hs_ => hs_.1) (fun hn_ => (.inr (Nat.le_trans (below_size HW.zb) hn_))), Or.elim hk_ (fun hs_ => hs_.2) (fun hn_ => (Kd.freshB (g := gb294) (o := .cells #[.int .u8 x295000_1, .slice none 0 0] 67 (0, 0)) (HW.zB BK294.out) k_ hn_))⟩)) (below_size HW.zb)); have HO305 := Aside0.mk (Kd.V_lower (Kd.V_mono (ok' := fun k_ => (P0_ k_ ∨ w.heap.size ≤ k_) ∧ k_ ≠ gb294) ho1 (fun k_ hk_ => ⟨Or.elim hk_ (fun hs_ => hs_.1) (fun hn_ => (.inr (Nat.le_trans (below_size HW.zb) hn_))), Or.elim hk_ (fun hs_ => hs_.2) (fun hn_ => (Kd.freshB (g := gb294) (o := .cells #[.int .u8 x295000_1, .slice none 0 0] 67 (0, 0)) (HW.zB BK294.out) k_ hn_))⟩)) (below_size HW.zb)); replace BK294 := Aside0.mk (blk_below (HW.zB BK294.out) hb); replace HB := Aside0.mk (below_step HW.zb hb); (try clear hg1); (try clear hg2); have hg1 := (HB.out.cell (World.block_lt_of_cell? w _ hgw1)).trans hgw1; have hg2 := (HB.out.cell (World.block_lt_of_cell? w _ hgw2)).trans hgw2; (try clear hb); (try clear ho0); (try clear ho1); obtain ⟨Ao53, co53, eo53⟩ := Kd.V_slice HO302.out; subst eo53))
          replace HO_7 := Aside0.mk (Kd.V_drew HO_7.out); replace HO302 := Aside0.mk (Kd.V_drew HO302.out); replace HO305 := Aside0.mk (Kd.V_drew HO305.out); replace BK294 := Aside0.mk (blk_drew BK294.out); replace HB := Aside0.mk (below_drew1 HB.out)
          (try clear hg1)
          (try clear hg2)
          have hg1 := (HB.out.cell (World.block_lt_of_cell? w _ hgw1)).trans hgw1; have hg2 := (HB.out.cell (World.block_lt_of_cell? w _ hgw2)).trans hgw2
          have p310 : 0 ≤ (0 : Int) := (by omega)
          have q310 : 0 < (l1.length : Int) := HW.od
          obtain ⟨ad310, e310, hx310_0⟩ := Kd.at_string HR1.out 0 p310 q310; have hw310_0 := hx310_0
          (try rw [show ((0 : Int)).toNat = 0 from rfl] at hw310_0)
          (try rw [show 0 * 1 = 0 from rfl] at hw310_0)
          (try rw [Addr.add_zero'] at hw310_0)
          cases e310
          have qi310 : (0 < l1.length) = True := eq_true (by omega)
          (try rw [show ((0 : Int)).toNat = 0 from rfl] at hx310_0)
          (try rw [Addr.add_zero'] at hx310_0)
          replace hx310_0 := (HB.out.cell (World.block_lt_of_cell? w _ hx310_0)).trans hx310_0; replace p310 := eq_true p310; replace q310 := eq_true q310
          refine start_ (n := 7) (S := fun w' => w'.cell? ad310 = some (.string (rdOf ByteArray.empty l1 0))) (ds := []) #[ff,ff,ff,ff,ff,ff,ff] (by kernel_rfl) rfl rfl (((HB.out.cell (World.block_lt_of_cell? w _ hw310_0)).trans hw310_0)) (fun hHeld => ?_)
          generalize w52.drew = w54 at HO_7 HO302 HO305 BK294 HB hx310_0 hHeld ⊢
          refine HW.pz (i := 0) (N := some 55) #[tt,ff,ff,ff,ff,ff,ff] ?_
          refine HW.pz (i := 3) (N := some 58) #[tt,ff,ff,tt,ff,ff,ff] ?_
          refine HW.pz (i := 4) (N := some 59) #[tt,ff,ff,tt,tt,ff,ff] ?_
          refine take_ (i := 5) (N := some 60) (v := ?_) (a' := ?_) #[tt,ff,ff,tt,tt,tt,ff] rfl rfl (by kernel_rfl) (fun _ _ _ h => h) (Or.inl ⟨by rfl, ?_⟩) hHeld ?_ ?_
          rotate_left
          · intro w' s0
            go_simp
            with_reducible rfl
          rotate_left
          · exact HW.pt
          refine one_ (i := 1) (N := some 56) #[tt,tt,ff,tt,tt,tt,ff] rfl rfl (by kernel_rfl) (by decide) (fun K hK => ?_)
          refine goes_ Tryz.func77 (by kernel_rfl) rfl #[.slice Ao53 t300.length co53] (by rfl) rfl rfl HW.mt ?_
          with_reducible refine (bsoncore_Element_KeyBytes.calls (fun k_ => ((P0_ k_ ∨ w.heap.size ≤ k_) ∧ k_ ≠ gb294)) _ _ t300 t307 _ ?side1 A15.out).mono ?_
          (case side1 => exact HO302.out)
          rintro e w55 ⟨v308, rfl, ho0, hb⟩
          refine ⟨_, rfl, ?_⟩
          replace HO_7 := Aside0.mk (Kd.V_below (HW.zV HO_7.out) hb); replace HO302 := Aside0.mk (Kd.V_below (HW.zV HO302.out) hb); replace HO305 := Aside0.mk (Kd.V_below (HW.zV HO305.out) hb); have HO309 := Aside0.mk (Kd.V_lower (Kd.V_mono (ok' := fun k_ => (P0_ k_ ∨ w.heap.size ≤ k_) ∧ k_ ≠ gb294) ho0 (fun k_ hk_ => ⟨Or.elim hk_ (fun hs_ => hs_.1) (fun hn_ => (.inr (Nat.le_trans (below_size HW.zb) hn_))), Or.elim hk_ (fun hs_ => hs_.2) (fun hn_ => (Kd.freshB (g := gb294) (o := .cells #[.int .u8 x295000_1, .slice none 0 0] 67 (0, 0)) (HW.zB BK294.out) k_ hn_))⟩)) (below_size HW.zb)); replace BK294 := Aside0.mk (blk_below (HW.zB BK294.out) hb); replace HB := Aside0.mk (below_step HW.zb hb)
          (try clear hg1)
          (try clear hg2)
          have hg1 := (HB.out.cell (World.block_lt_of_cell? w _ hgw1)).trans hgw1; have hg2 := (HB.out.cell (World.block_lt_of_cell? w _ hgw2)).trans hgw2
          (try clear hb)
          (try clear hk)
          (try clear ho0)
          refine hK.out _ _ (((HB.out.cell (World.block_lt_of_cell? w _ hw310_0)).trans hw310_0)) (fun hHeld => ?_)
          clear hK K
          refine HW.nz (N := (some 56)) ?_
          refine one_ (i := 2) (N := some 57) #[tt,tt,tt,tt,tt,tt,ff] rfl rfl (by kernel_rfl) (by decide) (fun K hK => ?_)
          have hcv56 := HW.V_string (P := Tryz.prog) Tryz.underlying22 Tryz.underlying5 Tryz.underlying9 (HO309.out)
          refine value_ (w1 := ?_) (v := ?_) (by rfl) rfl ?_ ?_
          rotate_left 2
          · go_simp
            constructor
            · rfl
            rfl
          clear hcv56
          refine hK.out _ _ (((HB.out.cell (World.block_lt_of_cell? w _ hw310_0)).trans hw310_0)) (fun hHeld => ?_)
          clear hK K
          refine HW.nz (N := (some 57)) ?_
          refine HW.pz (i := 6) (N := some 61) #[tt,tt,tt,tt,tt,tt,tt] ?_
          refine done_ (by kernel_rfl) ?_
          have p311 : 0 ≤ (0 : Int) := (by omega)
          have q311 : 0 < (t300.length : Int) := HW.od
          obtain ⟨ad311, e311, hx311_0⟩ := Kd.at_int (Kd.V_reads' HO302.out).2.2 0 p311 q311
          cases e311
          have qi311 : (0 < t300.length) = True := eq_true (by omega)
          (try rw [show ((0 : Int)).toNat = 0 from rfl] at hx311_0)
          (try rw [Addr.add_zero'] at hx311_0)
          replace p311 := eq_true p311; replace q311 := eq_true q311
          try go_wp2
          replace HO_7 := Aside0.mk (Kd.V_drew HO_7.out); replace HO302 := Aside0.mk (Kd.V_drew HO302.out); replace HO305 := Aside0.mk (Kd.V_drew HO305.out); replace HO309 := Aside0.mk (Kd.V_drew HO309.out); replace BK294 := Aside0.mk (blk_drew BK294.out); replace HB := Aside0.mk (below_drew1 HB.out)
          (try clear hg1)
          (try clear hg2)
          have hg1 := (HB.out.cell (World.block_lt_of_cell? w _ hgw1)).trans hgw1; have hg2 := (HB.out.cell (World.block_lt_of_cell? w _ hgw2)).trans hgw2; obtain ⟨i058, hi058, _, hsz58, _⟩ := info_parts info9
          obtain ⟨A58, hcut58, hA58, hC58⟩ := print_drop_of (P := Tryz.prog) Value.string (⟨#[]⟩ : ByteArray) 40 9 .i64 Tryz.underlying40 hi058 hsz58 (some ad310) c1 l1 1 (by omega) (HW.od) HC1.out
          have HR319 := Aside0.mk (Kd.C_of_reads (h1 := fun _ => rfl) (hA58 _ (Kd.reads_of_C HR1.out))); have HC319 := Aside0.mk hC58; clear hA58 hC58 hi058 hsz58
          refine start_ (n := 12) (S := fun w' => True) (ds := []) #[ff,ff,ff,ff,ff,ff,ff,ff,ff,ff,ff,ff] (by kernel_rfl) rfl rfl trivial (fun hHeld => ?_); refine with_tabW bsoncore_Document_LookupErr.tab19 bsoncore_Document_LookupErr.bits19 (fun HT_ HW_ => ?_)
          generalize w55.drew = w57 at HO_7 HO302 HO305 HO309 BK294 HB HR319 hHeld ⊢
          refine HW.pz (i := 0) (N := some 78) #[tt,ff,ff,ff,ff,ff,ff,ff,ff,ff,ff,ff] ?_ (hc := any_of HT_.out (by kernel_rfl))
          refine HW.pz (i := 3) (N := some 81) #[tt,ff,ff,tt,ff,ff,ff,ff,ff,ff,ff,ff] ?_ (hc := any_of HT_.out (by kernel_rfl))
          refine HW.pz (i := 4) (N := some 82) #[tt,ff,ff,tt,tt,ff,ff,ff,ff,ff,ff,ff] ?_ (hc := any_of HT_.out (by kernel_rfl))
          refine join_ (σ := Value × Value × Value × Value × Nat) 2 #[tt,tt,tt,tt,tt,tt,tt,tt,tt,tt,ff,ff] (fun s_ => [(79, .agg #[.int .u8 t312, s_.1]), (80, s_.2.1), (83, .tuple #[.agg #[.int .u8 t320, s_.2.2.1], s_.2.2.2.1]), (11, .pointer (some ⟨s_.2.2.2.2, 0, none⟩)), (77, .tuple #[.agg #[.int .u8 t320, s_.2.2.1], s_.2.2.2.1]), (84, .agg #[.int .u8 t320, s_.2.2.1]), (85, s_.2.2.2.1)]) (fun s_ w' => (Kd.V (Kd.int .u8) 5 w' w.heap.size (fun k_ => (P0_ k_ ∨ w.heap.size ≤ k_) ∧ k_ ≠ gb294 ∧ k_ ≠ s_.2.2.2.2) (.slice (some ad311) t300.length co53) t300) ∧ (Kd.V (Kd.int .u8) 5 w' w.heap.size (fun k_ => (P0_ k_ ∨ w.heap.size ≤ k_) ∧ k_ ≠ gb294 ∧ k_ ≠ s_.2.2.2.2) v304 t303) ∧ (Kd.V (Kd.int .u8) 5 w' w.heap.size (fun k_ => (P0_ k_ ∨ w.heap.size ≤ k_) ∧ k_ ≠ gb294 ∧ k_ ≠ s_.2.2.2.2) v308 t307) ∧ (Kd.V (Kd.int .u8) 5 w' w.heap.size (fun k_ => (P0_ k_ ∨ w.heap.size ≤ k_) ∧ k_ ≠ gb294 ∧ k_ ≠ s_.2.2.2.2) s_.1 t313) ∧ (Kd.V (Kd.int .u8) 5 w' w.heap.size (fun k_ => (P0_ k_ ∨ w.heap.size ≤ k_) ∧ k_ ≠ gb294 ∧ k_ ≠ s_.2.2.2.2) s_.2.1 t316) ∧ (Kd.V (Kd.int .u8) 5 w' w.heap.size (fun k_ => (P0_ k_ ∨ w.heap.size ≤ k_) ∧ k_ ≠ gb294 ∧ k_ ≠ s_.2.2.2.2) s_.2.2.1 t321) ∧ (Kd.V (Kd.int .u8) 5 w' w.heap.size (fun k_ => (P0_ k_ ∨ w.heap.size ≤ k_) ∧ k_ ≠ gb294 ∧ k_ ≠ s_.2.2.2.2) (.slice Ao51 x7_1.length co51) x7_1) ∧ (w'.heap[gb294]? = some (.cells #[.int .u8 x295000_1, .slice none 0 0] 67 (0, 0))) ∧ (w'.heap[s_.2.2.2.2]? = some (.cells #[.int .u8 0, .slice none 0 0] 67 (0, 0))) ∧ (w.heap.size ≤ s_.2.2.2.2) ∧ (w.heap.size ≤ s_.2.2.2.2) ∧ (gb294 ≠ s_.2.2.2.2) ∧ (s_.2.2.2.2 ≠ gb294) ∧ (Below w.heap.size w w') ∧ (Er.ErrR ρ s_.2.2.2.1 t324)) ?_ ?_
          rotate_left
          · intro hCont
            refine two_ (i := 1) (j := 9) (Ni := some 79) (Nj := some 11) #[tt,tt,ff,tt,tt,ff,ff,ff,ff,ff,ff,ff] #[tt,ff,ff,tt,tt,ff,ff,ff,ff,tt,ff,ff] rfl rfl rfl rfl (two_of HT_.out (by kernel_rfl)) (by decide) (by decide) (fun K hK => ?_) (fun K hK => ?_)
            · skip
              refine goes_ Tryz.func44 (by kernel_rfl) rfl #[.slice (some ad311) t300.length co53] (by rfl) rfl rfl HW.mt ?_
              with_reducible refine (bsoncore_Element_Value.calls k1 (fun k_ => ((P0_ k_ ∨ w.heap.size ≤ k_) ∧ k_ ≠ gb294)) _ _ t300 t312 t313 _ ?side1 A21.out).mono ?_
              (case side1 => exact HO302.out)
              rintro e w59 ⟨v314, rfl, ho0, hb⟩
              refine ⟨_, rfl, ?_⟩
              replace HO_7 := Aside0.mk (Kd.V_below (HW.zV HO_7.out) hb); replace HO302 := Aside0.mk (Kd.V_below (HW.zV HO302.out) hb); replace HO305 := Aside0.mk (Kd.V_below (HW.zV HO305.out) hb); replace HO309 := Aside0.mk (Kd.V_below (HW.zV HO309.out) hb); have HO315 := Aside0.mk (Kd.V_lower (Kd.V_mono (ok' := fun k_ => (P0_ k_ ∨ w.heap.size ≤ k_) ∧ k_ ≠ gb294) ho0 (fun k_ hk_ => ⟨Or.elim hk_ (fun hs_ => hs_.1) (fun hn_ => (.inr (Nat.le_trans (below_size HW.zb) hn_))), Or.elim hk_ (fun hs_ => hs_.2) (fun hn_ => (Kd.freshB (g := gb294) (o := .cells #[.int .u8 x295000_1, .slice none 0 0] 67 (0, 0)) (HW.zB BK294.out) k_ hn_))⟩)) (below_size HW.zb)); replace BK294 := Aside0.mk (blk_below (HW.zB BK294.out) hb); replace HB := Aside0.mk (below_step HW.zb hb)
              (try clear hg1)
              (try clear hg2)
              have hg1 := (HB.out.cell (World.block_lt_of_cell? w _ hgw1)).trans hgw1; have hg2 := (HB.out.cell (World.block_lt_of_cell? w _ hgw2)).trans hgw2
              (try clear hb)
              (try clear hk)
              (try clear ho0)
              obtain ⟨Ao60, co60, eo60⟩ := Kd.V_slice HO315.out
              (first | subst eo60 | (injection eo60 with f1_ f2_ f3_; have f4_ := f1_.symm; have f5_ := f3_.symm; clear f1_ f2_ f3_; subst f4_; subst f5_))
              refine hK.out _ _ trivial (fun hHeld => ?_)
              clear hK K
              refine HW.nz (N := (some 79)) ?_
              refine two_ (i := 2) (j := 9) (Ni := some 80) (Nj := some 11) #[tt,tt,tt,tt,tt,ff,ff,ff,ff,ff,ff,ff] #[tt,tt,ff,tt,tt,ff,ff,ff,ff,tt,ff,ff] rfl rfl rfl rfl (two_of HT_.out (by kernel_rfl)) (by decide) (by decide) (fun K hK => ?_) (fun K hK => ?_)
              · skip
                refine goes_ Tryz.func78 (by kernel_rfl) rfl #[.agg #[.int .u8 t312, .slice Ao60 t313.length co60]] (by rfl) rfl rfl HW.mt ?_
                with_reducible refine (bsoncore_Value_Document.calls t312 (fun k_ => ((P0_ k_ ∨ w.heap.size ≤ k_) ∧ k_ ≠ gb294)) _ _ t313 t316 _ ?side1 A22.out).mono ?_
                (case side1 => exact HO315.out)
                rintro e w61 ⟨v317, rfl, ho0, hb⟩
                refine ⟨_, rfl, ?_⟩
                replace HO_7 := Aside0.mk (Kd.V_below (HW.zV HO_7.out) hb); replace HO302 := Aside0.mk (Kd.V_below (HW.zV HO302.out) hb); replace HO305 := Aside0.mk (Kd.V_below (HW.zV HO305.out) hb); replace HO309 := Aside0.mk (Kd.V_below (HW.zV HO309.out) hb); replace HO315 := Aside0.mk (Kd.V_below (HW.zV HO315.out) hb); have HO318 := Aside0.mk (Kd.V_lower (Kd.V_mono (ok' := fun k_ => (P0_ k_ ∨ w.heap.size ≤ k_) ∧ k_ ≠ gb294) ho0 (fun k_ hk_ => ⟨Or.elim hk_ (fun hs_ => hs_.1) (fun hn_ => (.inr (Nat.le_trans (below_size HW.zb) hn_))), Or.elim hk_ (fun hs_ => hs_.2) (fun hn_ => (Kd.freshB (g := gb294) (o := .cells #[.int .u8 x295000_1, .slice none 0 0] 67 (0, 0)) (HW.zB BK294.out) k_ hn_))⟩)) (below_size HW.zb)); replace BK294 := Aside0.mk (blk_below (HW.zB BK294.out) hb); replace HB := Aside0.mk (below_step HW.zb hb)
                (try clear hg1)
                (try clear hg2)
                have hg1 := (HB.out.cell (World.block_lt_of_cell? w _ hgw1)).trans hgw1; have hg2 := (HB.out.cell (World.block_lt_of_cell? w _ hgw2)).trans hgw2
                (try clear hb)
                (try clear hk)
                (try clear ho0)
                obtain ⟨Ao62, co62, eo62⟩ := Kd.V_slice HO318.out
                (first | subst eo62 | (injection eo62 with f1_ f2_ f3_; have f4_ := f1_.symm; have f5_ := f3_.symm; clear f1_ f2_ f3_; subst f4_; subst f5_))
                refine hK.out _ _ trivial (fun hHeld => ?_)
                clear hK K
                refine HW.nz (N := (some 80)) ?_
                refine two_ (i := 5) (j := 9) (Ni := some 83) (Nj := some 11) #[tt,tt,tt,tt,tt,tt,ff,ff,ff,ff,ff,ff] #[tt,tt,tt,tt,tt,ff,ff,ff,ff,tt,ff,ff] rfl rfl rfl rfl (two_of HT_.out (by kernel_rfl)) (by decide) (by decide) (fun K hK => ?_) (fun K hK => ?_)
                · skip
                  refine goes_ Tryz.func35 (by kernel_rfl) rfl #[.slice Ao62 t316.length co62, .slice A58 (l1.drop 1).length (c1 - 1)] (by rfl) rfl rfl (by (try simp only [List.map_toArray, List.map_cons, List.map_nil]); first | done | (rw [show (l1.drop 1).length = (l1.length - 1) from List.length_drop] <;> rfl) | rfl | (simp only [List.length_drop, List.length_take]; rfl)) ?_
                  with_reducible refine (ih k1 (by have := HK1.out; omega) (fun k_ => ((P0_ k_ ∨ w.heap.size ≤ k_) ∧ k_ ≠ gb294)) _ _ t316 _ _ (l1.drop 1) t320 t321 t324 _ ?aLD ?side1 ?side2 ?side3 A24.out).mono ?_
                  (case aLD => exact Er.LaidE.below HL_.out (by repeat (first | (with_reducible first | exact HB.out | apply below_alloc | apply pw_below_drewN | apply below_drew1 | refine below_set ?_ GE294.out | refine below_set ?_ GE325.out | refine below_set ?_ GE340.out) | exact HB.out)))
                  (case side1 => exact HO318.out)
                  (case side2 => repeat (first | exact (Kd.C_below HR319.out HB.out) | (with_reducible refine Kd.C_alloc ?_ _) | (with_reducible refine Kd.C_drewN ?_ _) | (with_reducible refine Kd.C_drew ?_)))
                  (case side3 => exact HC319.out)
                  rintro e w63 ⟨v322, ve_t324, rfl, hE_t324, ho0, hb⟩
                  refine ⟨_, rfl, ?_⟩
                  replace HO_7 := Aside0.mk (Kd.V_below (HW.zV HO_7.out) hb); replace HO302 := Aside0.mk (Kd.V_below (HW.zV HO302.out) hb); replace HO305 := Aside0.mk (Kd.V_below (HW.zV HO305.out) hb); replace HO309 := Aside0.mk (Kd.V_below (HW.zV HO309.out) hb); replace HO315 := Aside0.mk (Kd.V_below (HW.zV HO315.out) hb); replace HO318 := Aside0.mk (Kd.V_below (HW.zV HO318.out) hb); have HO323 := Aside0.mk (Kd.V_lower (Kd.V_mono (ok' := fun k_ => (P0_ k_ ∨ w.heap.size ≤ k_) ∧ k_ ≠ gb294) ho0 (fun k_ hk_ => ⟨Or.elim hk_ (fun hs_ => hs_.1) (fun hn_ => (.inr (Nat.le_trans (below_size HW.zb) hn_))), Or.elim hk_ (fun hs_ => hs_.2) (fun hn_ => (Kd.freshB (g := gb294) (o := .cells #[.int .u8 x295000_1, .slice none 0 0] 67 (0, 0)) (HW.zB BK294.out) k_ hn_))⟩)) (below_size HW.zb)); replace BK294 := Aside0.mk (blk_below (HW.zB BK294.out) hb); replace HB := Aside0.mk (below_step HW.zb hb)
                  (try clear hg1)
                  (try clear hg2)
                  have hg1 := (HB.out.cell (World.block_lt_of_cell? w _ hgw1)).trans hgw1; have hg2 := (HB.out.cell (World.block_lt_of_cell? w _ hgw2)).trans hgw2
                  (try clear hb)
                  (try clear hk)
                  (try clear ho0)
                  replace hE_t324 := Aside0.mk hE_t324
                  refine hK.out _ _ trivial (fun hHeld => ?_)
                  clear hK K
                  refine HW.nz (N := (some 83)) ?_
                  refine HW.pz (i := 6) (N := some 77) #[tt,tt,tt,tt,tt,tt,tt,ff,ff,ff,ff,ff] ?_ (hc := any_of HT_.out (by kernel_rfl))
                  refine HW.pz (i := 7) (N := some 84) #[tt,tt,tt,tt,tt,tt,tt,tt,ff,ff,ff,ff] ?_ (hc := any_of HT_.out (by kernel_rfl))
                  refine HW.pz (i := 8) (N := some 85) #[tt,tt,tt,tt,tt,tt,tt,tt,tt,ff,ff,ff] ?_ (hc := any_of HT_.out (by kernel_rfl))
                  refine one_ (i := 9) (N := some 11) #[tt,tt,tt,tt,tt,tt,tt,tt,tt,tt,ff,ff] rfl rfl (one_of HT_.out (by kernel_rfl)) (by decide) (fun K hK => ?_)
                  refine box_step ?hg (N := 11) ?hd (cs := #[.int .u8 0, .slice none 0 0]) (t := 67) ?hr ?_; (case hd => rfl); (case hg => rfl); (case hr => first | (go_simp; done) | (go_simp; rfl))
                  intro gb325 hg w64 hbox hb
                  have n0_ := Aside0.mk (Kd.V_below (Kd.V_elderB (HW.zV HO_7.out) gb325 (Nat.le_of_eq hg.symm)) hb); have n1_ := Aside0.mk (Kd.V_below (Kd.V_elderB (HW.zV HO302.out) gb325 (Nat.le_of_eq hg.symm)) hb); have n2_ := Aside0.mk (Kd.V_below (Kd.V_elderB (HW.zV HO305.out) gb325 (Nat.le_of_eq hg.symm)) hb); have n3_ := Aside0.mk (Kd.V_below (Kd.V_elderB (HW.zV HO309.out) gb325 (Nat.le_of_eq hg.symm)) hb); have n4_ := Aside0.mk (Kd.V_below (Kd.V_elderB (HW.zV HO315.out) gb325 (Nat.le_of_eq hg.symm)) hb); have n5_ := Aside0.mk (Kd.V_below (Kd.V_elderB (HW.zV HO318.out) gb325 (Nat.le_of_eq hg.symm)) hb); have n6_ := Aside0.mk (Kd.V_below (Kd.V_elderB (HW.zV HO323.out) gb325 (Nat.le_of_eq hg.symm)) hb); have n7_ := Aside0.mk (blk_below (HW.zB BK294.out) hb); have n8_ := Aside0.mk (below_step HW.zb hb); have n9_ := Aside0.mk (hbox)
                  have n10_ := Aside0.mk ((by rw [hg]; exact (below_size HW.zb) : w.heap.size ≤ gb325))
                  have n11_ := Aside0.mk ((by rw [hg]; exact (below_size HW.zb) : w.heap.size ≤ gb325))
                  have n12_ := Aside0.mk ((by rw [hg]; exact Nat.ne_of_lt (blk_lt (g := gb294) (o := .cells #[.int .u8 x295000_1, .slice none 0 0] 67 (0, 0)) (HW.zB BK294.out)) : gb294 ≠ gb325))
                  have n13_ := Aside0.mk ((by rw [hg]; exact Nat.ne_of_gt (blk_lt (g := gb294) (o := .cells #[.int .u8 x295000_1, .slice none 0 0] 67 (0, 0)) (HW.zB BK294.out)) : gb325 ≠ gb294))
                  clear HO_7; clear HO302; clear HO305; clear HO309; clear HO315; clear HO318; clear HO323; clear BK294; clear HB; have HO_7 := n0_; have HO302 := n1_; have HO305 := n2_; have HO309 := n3_; have HO315 := n4_; have HO318 := n5_; have HO323 := n6_; have BK294 := n7_; have HB := n8_; have BK325 := n9_; have GW325 := n10_; have GE325 := n11_; have NB294_325 := n12_; have NB325_294 := n13_; clear n0_ n1_ n2_ n3_ n4_ n5_ n6_ n7_ n8_ n9_ n10_ n11_ n12_ n13_
                  (try clear hg1)
                  (try clear hg2)
                  have hg1 := (HB.out.cell (World.block_lt_of_cell? w _ hgw1)).trans hgw1; have hg2 := (HB.out.cell (World.block_lt_of_cell? w _ hgw2)).trans hgw2; clear hb hbox hg
                  refine hK.out _ _ trivial (fun hHeld => ?_)
                  clear hK K
                  refine HW.nz (N := (some 11)) ?_
                  exact norm_ (by simp only [putAll, Act.put, List.setIfInBounds_toArray, List.set_cons_zero, List.set_cons_succ, errW_none]) (hCont (.slice Ao60 t313.length co60, .slice Ao62 t316.length co62, v322, ve_t324, gb325) _ ⟨(HW.zV (Kd.V_mono HO302.out (fun _ hk => ⟨hk.1.1, ⟨hk.1.2, hk.2⟩⟩))), (HW.zV (Kd.V_mono HO305.out (fun _ hk => ⟨hk.1.1, ⟨hk.1.2, hk.2⟩⟩))), (HW.zV (Kd.V_mono HO309.out (fun _ hk => ⟨hk.1.1, ⟨hk.1.2, hk.2⟩⟩))), (HW.zV (Kd.V_mono HO315.out (fun _ hk => ⟨hk.1.1, ⟨hk.1.2, hk.2⟩⟩))), (HW.zV (Kd.V_mono HO318.out (fun _ hk => ⟨hk.1.1, ⟨hk.1.2, hk.2⟩⟩))), (HW.zV (Kd.V_mono HO323.out (fun _ hk => ⟨hk.1.1, ⟨hk.1.2, hk.2⟩⟩))), (HW.zV (Kd.V_mono HO_7.out (fun _ hk => ⟨hk.1.1, ⟨hk.1.2, hk.2⟩⟩))), (HW.zB BK294.out), (HW.zB BK325.out), GW325.out, GE325.out, NB294_325.out, NB325_294.out, HW.zb, hE_t324.out⟩)
                skip
                refine box_step ?hg (N := 11) ?hd (cs := #[.int .u8 0, .slice none 0 0]) (t := 67) ?hr ?_; (case hd => rfl); (case hg => rfl); (case hr => first | (go_simp; done) | (go_simp; rfl))
                intro gb325 hg w62 hbox hb
                have n0_ := Aside0.mk (Kd.V_below (Kd.V_elderB (HW.zV HO_7.out) gb325 (Nat.le_of_eq hg.symm)) hb); have n1_ := Aside0.mk (Kd.V_below (Kd.V_elderB (HW.zV HO302.out) gb325 (Nat.le_of_eq hg.symm)) hb); have n2_ := Aside0.mk (Kd.V_below (Kd.V_elderB (HW.zV HO305.out) gb325 (Nat.le_of_eq hg.symm)) hb); have n3_ := Aside0.mk (Kd.V_below (Kd.V_elderB (HW.zV HO309.out) gb325 (Nat.le_of_eq hg.symm)) hb); have n4_ := Aside0.mk (Kd.V_below (Kd.V_elderB (HW.zV HO315.out) gb325 (Nat.le_of_eq hg.symm)) hb); have n5_ := Aside0.mk (Kd.V_below (Kd.V_elderB (HW.zV HO318.out) gb325 (Nat.le_of_eq hg.symm)) hb); have n6_ := Aside0.mk (blk_below (HW.zB BK294.out) hb); have n7_ := Aside0.mk (below_step HW.zb hb); have n8_ := Aside0.mk (hbox)
                have n9_ := Aside0.mk ((by rw [hg]; exact (below_size HW.zb) : w.heap.size ≤ gb325))
                have n10_ := Aside0.mk ((by rw [hg]; exact (below_size HW.zb) : w.heap.size ≤ gb325))
                have n11_ := Aside0.mk ((by rw [hg]; exact Nat.ne_of_lt (blk_lt (g := gb294) (o := .cells #[.int .u8 x295000_1, .slice none 0 0] 67 (0, 0)) (HW.zB BK294.out)) : gb294 ≠ gb325))
                have n12_ := Aside0.mk ((by rw [hg]; exact Nat.ne_of_gt (blk_lt (g := gb294) (o := .cells #[.int .u8 x295000_1, .slice none 0 0] 67 (0, 0)) (HW.zB BK294.out)) : gb325 ≠ gb294))
                clear HO_7; clear HO302; clear HO305; clear HO309; clear HO315; clear HO318; clear BK294; clear HB; have HO_7 := n0_; have HO302 := n1_; have HO305 := n2_; have HO309 := n3_; have HO315 := n4_; have HO318 := n5_; have BK294 := n6_; have HB := n7_; have BK325 := n8_; have GW325 := n9_; have GE325 := n10_; have NB294_325 := n11_; have NB325_294 := n12_; clear n0_ n1_ n2_ n3_ n4_ n5_ n6_ n7_ n8_ n9_ n10_ n11_ n12_
                (try clear hg1)
                (try clear hg2)
                have hg1 := (HB.out.cell (World.block_lt_of_cell? w _ hgw1)).trans hgw1; have hg2 := (HB.out.cell (World.block_lt_of_cell? w _ hgw2)).trans hgw2; clear hb hbox hg; obtain ⟨Ao63, co63, eo63⟩ := Kd.V_slice HO318.out
                (first | subst eo63 | (injection eo63 with f1_ f2_ f3_; have f4_ := f1_.symm; have f5_ := f3_.symm; clear f1_ f2_ f3_; subst f4_; subst f5_))
                refine hK.out _ _ trivial (fun hHeld => ?_)
                clear hK K
                refine HW.nz (N := (some 11)) ?_
                refine one_ (i := 5) (N := some 83) #[tt,tt,tt,tt,tt,tt,ff,ff,ff,tt,ff,ff] rfl rfl (one_of HT_.out (by kernel_rfl)) (by decide) (fun K hK => ?_)
                refine goes_ Tryz.func35 (by kernel_rfl) rfl #[.slice Ao63 t316.length co63, .slice A58 (l1.drop 1).length (c1 - 1)] (by rfl) rfl rfl (by (try simp only [List.map_toArray, List.map_cons, List.map_nil]); first | done | (rw [show (l1.drop 1).length = (l1.length - 1) from List.length_drop] <;> rfl) | rfl | (simp only [List.length_drop, List.length_take]; rfl)) ?_
                with_reducible refine (ih k1 (by have := HK1.out; omega) (fun k_ => (((P0_ k_ ∨ w.heap.size ≤ k_) ∧ k_ ≠ gb294) ∧ k_ ≠ gb325)) _ _ t316 _ _ (l1.drop 1) t320 t321 t324 _ ?aLD ?side1 ?side2 ?side3 A24.out).mono ?_
                (case aLD => exact Er.LaidE.below HL_.out (by repeat (first | (with_reducible first | exact HB.out | apply below_alloc | apply pw_below_drewN | apply below_drew1 | refine below_set ?_ GE294.out | refine below_set ?_ GE325.out | refine below_set ?_ GE340.out) | exact HB.out)))
                (case side1 => exact HO318.out)
                (case side2 => repeat (first | exact (Kd.C_below HR319.out HB.out) | (with_reducible refine Kd.C_alloc ?_ _) | (with_reducible refine Kd.C_drewN ?_ _) | (with_reducible refine Kd.C_drew ?_)))
                (case side3 => exact HC319.out)
                rintro e w64 ⟨v322, ve_t324, rfl, hE_t324, ho0, hb⟩
                refine ⟨_, rfl, ?_⟩
                have n0_ := Aside0.mk (Kd.V_below (HW.zV HO_7.out) hb); have n1_ := Aside0.mk (Kd.V_below (HW.zV HO302.out) hb); have n2_ := Aside0.mk (Kd.V_below (HW.zV HO305.out) hb); have n3_ := Aside0.mk (Kd.V_below (HW.zV HO309.out) hb); have n4_ := Aside0.mk (Kd.V_below (HW.zV HO315.out) hb); have n5_ := Aside0.mk (Kd.V_below (HW.zV HO318.out) hb); have n6_ := Aside0.mk (Kd.V_lower (Kd.V_mono (ok' := fun k_ => (P0_ k_ ∨ w.heap.size ≤ k_) ∧ k_ ≠ gb294 ∧ k_ ≠ gb325) ho0 (fun k_ hk_ => ⟨Or.elim hk_ (fun hs_ => hs_.1.1) (fun hn_ => (.inr (Nat.le_trans (below_size HW.zb) hn_))), Or.elim hk_ (fun hs_ => hs_.1.2) (fun hn_ => (Kd.freshB (g := gb294) (o := .cells #[.int .u8 x295000_1, .slice none 0 0] 67 (0, 0)) (HW.zB BK294.out) k_ hn_)), Or.elim hk_ (fun hs_ => hs_.2) (fun hn_ => (Kd.freshB (g := gb325) (o := .cells #[.int .u8 0, .slice none 0 0] 67 (0, 0)) (HW.zB BK325.out) k_ hn_))⟩)) (below_size HW.zb)); have n7_ := Aside0.mk (blk_below (HW.zB BK294.out) hb); have n8_ := Aside0.mk (blk_below (HW.zB BK325.out) hb); have n9_ := Aside0.mk (below_step HW.zb hb); clear HO_7; clear HO302; clear HO305; clear HO309; clear HO315; clear HO318; clear BK294; clear BK325; clear HB; have HO_7 := n0_; have HO302 := n1_; have HO305 := n2_; have HO309 := n3_; have HO315 := n4_; have HO318 := n5_; have HO323 := n6_; have BK294 := n7_; have BK325 := n8_
                have HB := n9_; clear n0_ n1_ n2_ n3_ n4_ n5_ n6_ n7_ n8_ n9_
                (try clear hg1)
                (try clear hg2)
                have hg1 := (HB.out.cell (World.block_lt_of_cell? w _ hgw1)).trans hgw1; have hg2 := (HB.out.cell (World.block_lt_of_cell? w _ hgw2)).trans hgw2
                (try clear hb)
                (try clear hk)
                (try clear ho0)
                replace hE_t324 := Aside0.mk hE_t324
                refine hK.out _ _ trivial (fun hHeld => ?_)
                clear hK K
                refine HW.nz (N := (some 83)) ?_
                refine HW.pz (i := 6) (N := some 77) #[tt,tt,tt,tt,tt,tt,tt,ff,ff,tt,ff,ff] ?_ (hc := any_of HT_.out (by kernel_rfl))
                refine HW.pz (i := 7) (N := some 84) #[tt,tt,tt,tt,tt,tt,tt,tt,ff,tt,ff,ff] ?_ (hc := any_of HT_.out (by kernel_rfl))
                refine HW.pz (i := 8) (N := some 85) #[tt,tt,tt,tt,tt,tt,tt,tt,tt,tt,ff,ff] ?_ (hc := any_of HT_.out (by kernel_rfl))
                exact norm_ (by simp only [putAll, Act.put, List.setIfInBounds_toArray, List.set_cons_zero, List.set_cons_succ, errW_none]) (hCont (.slice Ao60 t313.length co60, .slice Ao63 t316.length co63, v322, ve_t324, gb325) _ ⟨(HW.zV (Kd.V_mono HO302.out (fun _ hk => ⟨hk.1.1, ⟨hk.1.2, hk.2⟩⟩))), (HW.zV (Kd.V_mono HO305.out (fun _ hk => ⟨hk.1.1, ⟨hk.1.2, hk.2⟩⟩))), (HW.zV (Kd.V_mono HO309.out (fun _ hk => ⟨hk.1.1, ⟨hk.1.2, hk.2⟩⟩))), (HW.zV (Kd.V_mono HO315.out (fun _ hk => ⟨hk.1.1, ⟨hk.1.2, hk.2⟩⟩))), (HW.zV (Kd.V_mono HO318.out (fun _ hk => ⟨hk.1.1, ⟨hk.1.2, hk.2⟩⟩))), (HW.zV HO323.out), (HW.zV (Kd.V_mono HO_7.out (fun _ hk => ⟨hk.1.1, ⟨hk.1.2, hk.2⟩⟩))), (HW.zB BK294.out), (HW.zB BK325.out), GW325.out, GE325.out, NB294_325.out, NB325_294.out, HW.zb, hE_t324.out⟩)
              skip
              refine box_step ?hg (N := 11) ?hd (cs := #[.int .u8 0, .slice none 0 0]) (t := 67) ?hr ?_; (case hd => rfl); (case hg => rfl); (case hr => first | (go_simp; done) | (go_simp; rfl))
              intro gb325 hg w60 hbox hb
              have n0_ := Aside0.mk (Kd.V_below (Kd.V_elderB (HW.zV HO_7.out) gb325 (Nat.le_of_eq hg.symm)) hb); have n1_ := Aside0.mk (Kd.V_below (Kd.V_elderB (HW.zV HO302.out) gb325 (Nat.le_of_eq hg.symm)) hb); have n2_ := Aside0.mk (Kd.V_below (Kd.V_elderB (HW.zV HO305.out) gb325 (Nat.le_of_eq hg.symm)) hb); have n3_ := Aside0.mk (Kd.V_below (Kd.V_elderB (HW.zV HO309.out) gb325 (Nat.le_of_eq hg.symm)) hb); have n4_ := Aside0.mk (Kd.V_below (Kd.V_elderB (HW.zV HO315.out) gb325 (Nat.le_of_eq hg.symm)) hb); have n5_ := Aside0.mk (blk_below (HW.zB BK294.out) hb); have n6_ := Aside0.mk (below_step HW.zb hb); have n7_ := Aside0.mk (hbox)
              have n8_ := Aside0.mk ((by rw [hg]; exact (below_size HW.zb) : w.heap.size ≤ gb325))
              have n9_ := Aside0.mk ((by rw [hg]; exact (below_size HW.zb) : w.heap.size ≤ gb325))
              have n10_ := Aside0.mk ((by rw [hg]; exact Nat.ne_of_lt (blk_lt (g := gb294) (o := .cells #[.int .u8 x295000_1, .slice none 0 0] 67 (0, 0)) (HW.zB BK294.out)) : gb294 ≠ gb325))
              have n11_ := Aside0.mk ((by rw [hg]; exact Nat.ne_of_gt (blk_lt (g := gb294) (o := .cells #[.int .u8 x295000_1, .slice none 0 0] 67 (0, 0)) (HW.zB BK294.out)) : gb325 ≠ gb294))
              clear HO_7; clear HO302; clear HO305; clear HO309; clear HO315; clear BK294; clear HB; have HO_7 := n0_; have HO302 := n1_; have HO305 := n2_; have HO309 := n3_; have HO315 := n4_; have BK294 := n5_; have HB := n6_; have BK325 := n7_; have GW325 := n8_; have GE325 := n9_; have NB294_325 := n10_; have NB325_294 := n11_; clear n0_ n1_ n2_ n3_ n4_ n5_ n6_ n7_ n8_ n9_ n10_ n11_
              (try clear hg1)
              (try clear hg2)
              have hg1 := (HB.out.cell (World.block_lt_of_cell? w _ hgw1)).trans hgw1; have hg2 := (HB.out.cell (World.block_lt_of_cell? w _ hgw2)).trans hgw2; clear hb hbox hg; obtain ⟨Ao61, co61, eo61⟩ := Kd.V_slice HO315.out
              (first | subst eo61 | (injection eo61 with f1_ f2_ f3_; have f4_ := f1_.symm; have f5_ := f3_.symm; clear f1_ f2_ f3_; subst f4_; subst f5_))
              refine hK.out _ _ trivial (fun hHeld => ?_)
              clear hK K
              refine HW.nz (N := (some 11)) ?_
              refine one_ (i := 2) (N := some 80) #[tt,tt,tt,tt,tt,ff,ff,ff,ff,tt,ff,ff] rfl rfl (one_of HT_.out (by kernel_rfl)) (by decide) (fun K hK => ?_)
              refine goes_ Tryz.func78 (by kernel_rfl) rfl #[.agg #[.int .u8 t312, .slice Ao61 t313.length co61]] (by rfl) rfl rfl HW.mt ?_
              with_reducible refine (bsoncore_Value_Document.calls t312 (fun k_ => (((P0_ k_ ∨ w.heap.size ≤ k_) ∧ k_ ≠ gb294) ∧ k_ ≠ gb325)) _ _ t313 t316 _ ?side1 A22.out).mono ?_
              (case side1 => exact HO315.out)
              rintro e w62 ⟨v317, rfl, ho0, hb⟩
              refine ⟨_, rfl, ?_⟩
              replace HO_7 := Aside0.mk (Kd.V_below (HW.zV HO_7.out) hb); replace HO302 := Aside0.mk (Kd.V_below (HW.zV HO302.out) hb); replace HO305 := Aside0.mk (Kd.V_below (HW.zV HO305.out) hb); replace HO309 := Aside0.mk (Kd.V_below (HW.zV HO309.out) hb); replace HO315 := Aside0.mk (Kd.V_below (HW.zV HO315.out) hb); have HO318 := Aside0.mk (Kd.V_lower (Kd.V_mono (ok' := fun k_ => (P0_ k_ ∨ w.heap.size ≤ k_) ∧ k_ ≠ gb294 ∧ k_ ≠ gb325) ho0 (fun k_ hk_ => ⟨Or.elim hk_ (fun hs_ => hs_.1.1) (fun hn_ => (.inr (Nat.le_trans (below_size HW.zb) hn_))), Or.elim hk_ (fun hs_ => hs_.1.2) (fun hn_ => (Kd.freshB (g := gb294) (o := .cells #[.int .u8 x295000_1, .slice none 0 0] 67 (0, 0)) (HW.zB BK294.out) k_ hn_)), Or.elim hk_ (fun hs_ => hs_.2) (fun hn_ => (Kd.freshB (g := gb325) (o := .cells #[.int .u8 0, .slice none 0 0] 67 (0, 0)) (HW.zB BK325.out) k_ hn_))⟩)) (below_size HW.zb)); replace BK294 := Aside0.mk (blk_below (HW.zB BK294.out) hb); replace BK325 := Aside0.mk (blk_below (HW.zB BK325.out) hb); replace HB := Aside0.mk (below_step HW.zb hb)
              (try clear hg1)
              (try clear hg2)
              have hg1 := (HB.out.cell (World.block_lt_of_cell? w _ hgw1)).trans hgw1; have hg2 := (HB.out.cell (World.block_lt_of_cell? w _ hgw2)).trans hgw2
              (try clear hb)
              (try clear hk)
              (try clear ho0)
              obtain ⟨Ao63, co63, eo63⟩ := Kd.V_slice HO318.out
              (first | subst eo63 | (injection eo63 with f1_ f2_ f3_; have f4_ := f1_.symm; have f5_ := f3_.symm; clear f1_ f2_ f3_; subst f4_; subst f5_))
              refine hK.out _ _ trivial (fun hHeld => ?_)
              clear hK K
              refine HW.nz (N := (some 80)) ?_
              refine one_ (i := 5) (N := some 83) #[tt,tt,tt,tt,tt,tt,ff,ff,ff,tt,ff,ff] rfl rfl (one_of HT_.out (by kernel_rfl)) (by decide) (fun K hK => ?_)
              refine goes_ Tryz.func35 (by kernel_rfl) rfl #[.slice Ao63 t316.length co63, .slice A58 (l1.drop 1).length (c1 - 1)] (by rfl) rfl rfl (by (try simp only [List.map_toArray, List.map_cons, List.map_nil]); first | done | (rw [show (l1.drop 1).length = (l1.length - 1) from List.length_drop] <;> rfl) | rfl | (simp only [List.length_drop, List.length_take]; rfl)) ?_
              with_reducible refine (ih k1 (by have := HK1.out; omega) (fun k_ => ((P0_ k_ ∨ w.heap.size ≤ k_) ∧ (k_ ≠ gb294 ∧ k_ ≠ gb325))) _ _ t316 _ _ (l1.drop 1) t320 t321 t324 _ ?aLD ?side1 ?side2 ?side3 A24.out).mono ?_
              (case aLD => exact Er.LaidE.below HL_.out (by repeat (first | (with_reducible first | exact HB.out | apply below_alloc | apply pw_below_drewN | apply below_drew1 | refine below_set ?_ GE294.out | refine below_set ?_ GE325.out | refine below_set ?_ GE340.out) | exact HB.out)))
              (case side1 => exact HO318.out)
              (case side2 => repeat (first | exact (Kd.C_below HR319.out HB.out) | (with_reducible refine Kd.C_alloc ?_ _) | (with_reducible refine Kd.C_drewN ?_ _) | (with_reducible refine Kd.C_drew ?_)))
              (case side3 => exact HC319.out)
              rintro e w64 ⟨v322, ve_t324, rfl, hE_t324, ho0, hb⟩
              refine ⟨_, rfl, ?_⟩
              have n0_ := Aside0.mk (Kd.V_below (HW.zV HO_7.out) hb); have n1_ := Aside0.mk (Kd.V_below (HW.zV HO302.out) hb); have n2_ := Aside0.mk (Kd.V_below (HW.zV HO305.out) hb); have n3_ := Aside0.mk (Kd.V_below (HW.zV HO309.out) hb); have n4_ := Aside0.mk (Kd.V_below (HW.zV HO315.out) hb); have n5_ := Aside0.mk (Kd.V_below (HW.zV HO318.out) hb); have n6_ := Aside0.mk (Kd.V_lower (Kd.V_mono (ok' := fun k_ => (P0_ k_ ∨ w.heap.size ≤ k_) ∧ k_ ≠ gb294 ∧ k_ ≠ gb325) ho0 (fun k_ hk_ => ⟨Or.elim hk_ (fun hs_ => hs_.1) (fun hn_ => (.inr (Nat.le_trans (below_size HW.zb) hn_))), Or.elim hk_ (fun hs_ => hs_.2.1) (fun hn_ => (Kd.freshB (g := gb294) (o := .cells #[.int .u8 x295000_1, .slice none 0 0] 67 (0, 0)) (HW.zB BK294.out) k_ hn_)), Or.elim hk_ (fun hs_ => hs_.2.2) (fun hn_ => (Kd.freshB (g := gb325) (o := .cells #[.int .u8 0, .slice none 0 0] 67 (0, 0)) (HW.zB BK325.out) k_ hn_))⟩)) (below_size HW.zb)); have n7_ := Aside0.mk (blk_below (HW.zB BK294.out) hb); have n8_ := Aside0.mk (blk_below (HW.zB BK325.out) hb); have n9_ := Aside0.mk (below_step HW.zb hb); clear HO_7; clear HO302; clear HO305; clear HO309; clear HO315; clear HO318; clear BK294; clear BK325; clear HB; have HO_7 := n0_; have HO302 := n1_; have HO305 := n2_; have HO309 := n3_; have HO315 := n4_; have HO318 := n5_; have HO323 := n6_; have BK294 := n7_; have BK325 := n8_
              have HB := n9_; clear n0_ n1_ n2_ n3_ n4_ n5_ n6_ n7_ n8_ n9_
              (try clear hg1)
              (try clear hg2)
              have hg1 := (HB.out.cell (World.block_lt_of_cell? w _ hgw1)).trans hgw1; have hg2 := (HB.out.cell (World.block_lt_of_cell? w _ hgw2)).trans hgw2
              (try clear hb)
              (try clear hk)
              (try clear ho0)
              replace hE_t324 := Aside0.mk hE_t324
              refine hK.out _ _ trivial (fun hHeld => ?_)
              clear hK K
              refine HW.nz (N := (some 83)) ?_
              refine HW.pz (i := 6) (N := some 77) #[tt,tt,tt,tt,tt,tt,tt,ff,ff,tt,ff,ff] ?_ (hc := any_of HT_.out (by kernel_rfl))
              refine HW.pz (i := 7) (N := some 84) #[tt,tt,tt,tt,tt,tt,tt,tt,ff,tt,ff,ff] ?_ (hc := any_of HT_.out (by kernel_rfl))
              refine HW.pz (i := 8) (N := some 85) #[tt,tt,tt,tt,tt,tt,tt,tt,tt,tt,ff,ff] ?_ (hc := any_of HT_.out (by kernel_rfl))
              exact norm_ (by simp only [putAll, Act.put, List.setIfInBounds_toArray, List.set_cons_zero, List.set_cons_succ, errW_none]) (hCont (.slice Ao61 t313.length co61, .slice Ao63 t316.length co63, v322, ve_t324, gb325) _ ⟨(HW.zV (Kd.V_mono HO302.out (fun _ hk => ⟨hk.1.1, ⟨hk.1.2, hk.2⟩⟩))), (HW.zV (Kd.V_mono HO305.out (fun _ hk => ⟨hk.1.1, ⟨hk.1.2, hk.2⟩⟩))), (HW.zV (Kd.V_mono HO309.out (fun _ hk => ⟨hk.1.1, ⟨hk.1.2, hk.2⟩⟩))), (HW.zV (Kd.V_mono HO315.out (fun _ hk => ⟨hk.1.1, ⟨hk.1.2, hk.2⟩⟩))), (HW.zV HO318.out), (HW.zV HO323.out), (HW.zV (Kd.V_mono HO_7.out (fun _ hk => ⟨hk.1.1, ⟨hk.1.2, hk.2⟩⟩))), (HW.zB BK294.out), (HW.zB BK325.out), GW325.out, GE325.out, NB294_325.out, NB325_294.out, HW.zb, hE_t324.out⟩)
            skip
            refine box_step ?hg (N := 11) ?hd (cs := #[.int .u8 0, .slice none 0 0]) (t := 67) ?hr ?_; (case hd => rfl); (case hg => rfl); (case hr => first | (go_simp; done) | (go_simp; rfl))
            intro gb325 hg w59 hbox hb
            have n0_ := Aside0.mk (Kd.V_below (Kd.V_elderB (HW.zV HO_7.out) gb325 (Nat.le_of_eq hg.symm)) hb); have n1_ := Aside0.mk (Kd.V_below (Kd.V_elderB (HW.zV HO302.out) gb325 (Nat.le_of_eq hg.symm)) hb); have n2_ := Aside0.mk (Kd.V_below (Kd.V_elderB (HW.zV HO305.out) gb325 (Nat.le_of_eq hg.symm)) hb); have n3_ := Aside0.mk (Kd.V_below (Kd.V_elderB (HW.zV HO309.out) gb325 (Nat.le_of_eq hg.symm)) hb); have n4_ := Aside0.mk (blk_below (HW.zB BK294.out) hb); have n5_ := Aside0.mk (below_step HW.zb hb); have n6_ := Aside0.mk (hbox)
            have n7_ := Aside0.mk ((by rw [hg]; exact (below_size HW.zb) : w.heap.size ≤ gb325))
            have n8_ := Aside0.mk ((by rw [hg]; exact (below_size HW.zb) : w.heap.size ≤ gb325))
            have n9_ := Aside0.mk ((by rw [hg]; exact Nat.ne_of_lt (blk_lt (g := gb294) (o := .cells #[.int .u8 x295000_1, .slice none 0 0] 67 (0, 0)) (HW.zB BK294.out)) : gb294 ≠ gb325))
            have n10_ := Aside0.mk ((by rw [hg]; exact Nat.ne_of_gt (blk_lt (g := gb294) (o := .cells #[.int .u8 x295000_1, .slice none 0 0] 67 (0, 0)) (HW.zB BK294.out)) : gb325 ≠ gb294))
            clear HO_7; clear HO302; clear HO305; clear HO309; clear BK294; clear HB; have HO_7 := n0_; have HO302 := n1_; have HO305 := n2_; have HO309 := n3_; have BK294 := n4_; have HB := n5_; have BK325 := n6_; have GW325 := n7_; have GE325 := n8_; have NB294_325 := n9_; have NB325_294 := n10_; clear n0_ n1_ n2_ n3_ n4_ n5_ n6_ n7_ n8_ n9_ n10_
            (try clear hg1)
            (try clear hg2)
            have hg1 := (HB.out.cell (World.block_lt_of_cell? w _ hgw1)).trans hgw1; have hg2 := (HB.out.cell (World.block_lt_of_cell? w _ hgw2)).trans hgw2; clear hb hbox hg
            refine hK.out _ _ trivial (fun hHeld => ?_)
            clear hK K
            refine HW.nz (N := (some 11)) ?_
            refine one_ (i := 1) (N := some 79) #[tt,tt,ff,tt,tt,ff,ff,ff,ff,tt,ff,ff] rfl rfl (one_of HT_.out (by kernel_rfl)) (by decide) (fun K hK => ?_)
            refine goes_ Tryz.func44 (by kernel_rfl) rfl #[.slice (some ad311) t300.length co53] (by rfl) rfl rfl HW.mt ?_
            with_reducible refine (bsoncore_Element_Value.calls k1 (fun k_ => (((P0_ k_ ∨ w.heap.size ≤ k_) ∧ k_ ≠ gb294) ∧ k_ ≠ gb325)) _ _ t300 t312 t313 _ ?side1 A21.out).mono ?_
            (case side1 => exact HO302.out)
            rintro e w60 ⟨v314, rfl, ho0, hb⟩
            refine ⟨_, rfl, ?_⟩
            replace HO_7 := Aside0.mk (Kd.V_below (HW.zV HO_7.out) hb); replace HO302 := Aside0.mk (Kd.V_below (HW.zV HO302.out) hb); replace HO305 := Aside0.mk (Kd.V_below (HW.zV HO305.out) hb); replace HO309 := Aside0.mk (Kd.V_below (HW.zV HO309.out) hb); have HO315 := Aside0.mk (Kd.V_lower (Kd.V_mono (ok' := fun k_ => (P0_ k_ ∨ w.heap.size ≤ k_) ∧ k_ ≠ gb294 ∧ k_ ≠ gb325) ho0 (fun k_ hk_ => ⟨Or.elim hk_ (fun hs_ => hs_.1.1) (fun hn_ => (.inr (Nat.le_trans (below_size HW.zb) hn_))), Or.elim hk_ (fun hs_ => hs_.1.2) (fun hn_ => (Kd.freshB (g := gb294) (o := .cells #[.int .u8 x295000_1, .slice none 0 0] 67 (0, 0)) (HW.zB BK294.out) k_ hn_)), Or.elim hk_ (fun hs_ => hs_.2) (fun hn_ => (Kd.freshB (g := gb325) (o := .cells #[.int .u8 0, .slice none 0 0] 67 (0, 0)) (HW.zB BK325.out) k_ hn_))⟩)) (below_size HW.zb)); replace BK294 := Aside0.mk (blk_below (HW.zB BK294.out) hb); replace BK325 := Aside0.mk (blk_below (HW.zB BK325.out) hb); replace HB := Aside0.mk (below_step HW.zb hb)
            (try clear hg1)
            (try clear hg2)
            have hg1 := (HB.out.cell (World.block_lt_of_cell? w _ hgw1)).trans hgw1; have hg2 := (HB.out.cell (World.block_lt_of_cell? w _ hgw2)).trans hgw2
            (try clear hb)
            (try clear hk)
            (try clear ho0)
            obtain ⟨Ao61, co61, eo61⟩ := Kd.V_slice HO315.out
            (first | subst eo61 | (injection eo61 with f1_ f2_ f3_; have f4_ := f1_.symm; have f5_ := f3_.symm; clear f1_ f2_ f3_; subst f4_; subst f5_))
            refine hK.out _ _ trivial (fun hHeld => ?_)
            clear hK K
            refine HW.nz (N := (some 79)) ?_
            refine one_ (i := 2) (N := some 80) #[tt,tt,tt,tt,tt,ff,ff,ff,ff,tt,ff,ff] rfl rfl (one_of HT_.out (by kernel_rfl)) (by decide) (fun K hK => ?_)
            refine goes_ Tryz.func78 (by kernel_rfl) rfl #[.agg #[.int .u8 t312, .slice Ao61 t313.length co61]] (by rfl) rfl rfl HW.mt ?_
            with_reducible refine (bsoncore_Value_Document.calls t312 (fun k_ => ((P0_ k_ ∨ w.heap.size ≤ k_) ∧ (k_ ≠ gb294 ∧ k_ ≠ gb325))) _ _ t313 t316 _ ?side1 A22.out).mono ?_
            (case side1 => exact HO315.out)
            rintro e w62 ⟨v317, rfl, ho0, hb⟩
            refine ⟨_, rfl, ?_⟩
            replace HO_7 := Aside0.mk (Kd.V_below (HW.zV HO_7.out) hb); replace HO302 := Aside0.mk (Kd.V_below (HW.zV HO302.out) hb); replace HO305 := Aside0.mk (Kd.V_below (HW.zV HO305.out) hb); replace HO309 := Aside0.mk (Kd.V_below (HW.zV HO309.out) hb); replace HO315 := Aside0.mk (Kd.V_below (HW.zV HO315.out) hb); have HO318 := Aside0.mk (Kd.V_lower (Kd.V_mono (ok' := fun k_ => (P0_ k_ ∨ w.heap.size ≤ k_) ∧ k_ ≠ gb294 ∧ k_ ≠ gb325) ho0 (fun k_ hk_ => ⟨Or.elim hk_ (fun hs_ => hs_.1) (fun hn_ => (.inr (Nat.le_trans (below_size HW.zb) hn_))), Or.elim hk_ (fun hs_ => hs_.2.1) (fun hn_ => (Kd.freshB (g := gb294) (o := .cells #[.int .u8 x295000_1, .slice none 0 0] 67 (0, 0)) (HW.zB BK294.out) k_ hn_)), Or.elim hk_ (fun hs_ => hs_.2.2) (fun hn_ => (Kd.freshB (g := gb325) (o := .cells #[.int .u8 0, .slice none 0 0] 67 (0, 0)) (HW.zB BK325.out) k_ hn_))⟩)) (below_size HW.zb)); replace BK294 := Aside0.mk (blk_below (HW.zB BK294.out) hb); replace BK325 := Aside0.mk (blk_below (HW.zB BK325.out) hb); replace HB := Aside0.mk (below_step HW.zb hb)
            (try clear hg1)
            (try clear hg2)
            have hg1 := (HB.out.cell (World.block_lt_of_cell? w _ hgw1)).trans hgw1; have hg2 := (HB.out.cell (World.block_lt_of_cell? w _ hgw2)).trans hgw2
            (try clear hb)
            (try clear hk)
            (try clear ho0)
            obtain ⟨Ao63, co63, eo63⟩ := Kd.V_slice HO318.out
            (first | subst eo63 | (injection eo63 with f1_ f2_ f3_; have f4_ := f1_.symm; have f5_ := f3_.symm; clear f1_ f2_ f3_; subst f4_; subst f5_))
            refine hK.out _ _ trivial (fun hHeld => ?_)
            clear hK K
            refine HW.nz (N := (some 80)) ?_
            refine one_ (i := 5) (N := some 83) #[tt,tt,tt,tt,tt,tt,ff,ff,ff,tt,ff,ff] rfl rfl (one_of HT_.out (by kernel_rfl)) (by decide) (fun K hK => ?_)
            refine goes_ Tryz.func35 (by kernel_rfl) rfl #[.slice Ao63 t316.length co63, .slice A58 (l1.drop 1).length (c1 - 1)] (by rfl) rfl rfl (by (try simp only [List.map_toArray, List.map_cons, List.map_nil]); first | done | (rw [show (l1.drop 1).length = (l1.length - 1) from List.length_drop] <;> rfl) | rfl | (simp only [List.length_drop, List.length_take]; rfl)) ?_
            with_reducible refine (ih k1 (by have := HK1.out; omega) (fun k_ => ((P0_ k_ ∨ w.heap.size ≤ k_) ∧ (k_ ≠ gb294 ∧ k_ ≠ gb325))) _ _ t316 _ _ (l1.drop 1) t320 t321 t324 _ ?aLD ?side1 ?side2 ?side3 A24.out).mono ?_
            (case aLD => exact Er.LaidE.below HL_.out (by repeat (first | (with_reducible first | exact HB.out | apply below_alloc | apply pw_below_drewN | apply below_drew1 | refine below_set ?_ GE294.out | refine below_set ?_ GE325.out | refine below_set ?_ GE340.out) | exact HB.out)))
            (case side1 => exact HO318.out)
            (case side2 => repeat (first | exact (Kd.C_below HR319.out HB.out) | (with_reducible refine Kd.C_alloc ?_ _) | (with_reducible refine Kd.C_drewN ?_ _) | (with_reducible refine Kd.C_drew ?_)))
            (case side3 => exact HC319.out)
            rintro e w64 ⟨v322, ve_t324, rfl, hE_t324, ho0, hb⟩
            refine ⟨_, rfl, ?_⟩
            have n0_ := Aside0.mk (Kd.V_below (HW.zV HO_7.out) hb); have n1_ := Aside0.mk (Kd.V_below (HW.zV HO302.out) hb); have n2_ := Aside0.mk (Kd.V_below (HW.zV HO305.out) hb); have n3_ := Aside0.mk (Kd.V_below (HW.zV HO309.out) hb); have n4_ := Aside0.mk (Kd.V_below (HW.zV HO315.out) hb); have n5_ := Aside0.mk (Kd.V_below (HW.zV HO318.out) hb); have n6_ := Aside0.mk (Kd.V_lower (Kd.V_mono (ok' := fun k_ => (P0_ k_ ∨ w.heap.size ≤ k_) ∧ k_ ≠ gb294 ∧ k_ ≠ gb325) ho0 (fun k_ hk_ => ⟨Or.elim hk_ (fun hs_ => hs_.1) (fun hn_ => (.inr (Nat.le_trans (below_size HW.zb) hn_))), Or.elim hk_ (fun hs_ => hs_.2.1) (fun hn_ => (Kd.freshB (g := gb294) (o := .cells #[.int .u8 x295000_1, .slice none 0 0] 67 (0, 0)) (HW.zB BK294.out) k_ hn_)), Or.elim hk_ (fun hs_ => hs_.2.2) (fun hn_ => (Kd.freshB (g := gb325) (o := .cells #[.int .u8 0, .slice none 0 0] 67 (0, 0)) (HW.zB BK325.out) k_ hn_))⟩)) (below_size HW.zb)); have n7_ := Aside0.mk (blk_below (HW.zB BK294.out) hb); have n8_ := Aside0.mk (blk_below (HW.zB BK325.out) hb); have n9_ := Aside0.mk (below_step HW.zb hb); clear HO_7; clear HO302; clear HO305; clear HO309; clear HO315; clear HO318; clear BK294; clear BK325; clear HB; have HO_7 := n0_; have HO302 := n1_; have HO305 := n2_; have HO309 := n3_; have HO315 := n4_; have HO318 := n5_; have HO323 := n6_; have BK294 := n7_; have BK325 := n8_
            have HB := n9_; clear n0_ n1_ n2_ n3_ n4_ n5_ n6_ n7_ n8_ n9_
            (try clear hg1)
            (try clear hg2)
            have hg1 := (HB.out.cell (World.block_lt_of_cell? w _ hgw1)).trans hgw1; have hg2 := (HB.out.cell (World.block_lt_of_cell? w _ hgw2)).trans hgw2
            (try clear hb)
            (try clear hk)
            (try clear ho0)
            replace hE_t324 := Aside0.mk hE_t324
            refine hK.out _ _ trivial (fun hHeld => ?_)
            clear hK K
            refine HW.nz (N := (some 83)) ?_
            refine HW.pz (i := 6) (N := some 77) #[tt,tt,tt,tt,tt,tt,tt,ff,ff,tt,ff,ff] ?_ (hc := any_of HT_.out (by kernel_rfl))
            refine HW.pz (i := 7) (N := some 84) #[tt,tt,tt,tt,tt,tt,tt,tt,ff,tt,ff,ff] ?_ (hc := any_of HT_.out (by kernel_rfl))
            refine HW.pz (i := 8) (N := some 85) #[tt,tt,tt,tt,tt,tt,tt,tt,tt,tt,ff,ff] ?_ (hc := any_of HT_.out (by kernel_rfl))
            exact norm_ (by simp only [putAll, Act.put, List.setIfInBounds_toArray, List.set_cons_zero, List.set_cons_succ, errW_none]) (hCont (.slice Ao61 t313.length co61, .slice Ao63 t316.length co63, v322, ve_t324, gb325) _ ⟨(HW.zV (Kd.V_mono HO302.out (fun _ hk => ⟨hk.1.1, ⟨hk.1.2, hk.2⟩⟩))), (HW.zV (Kd.V_mono HO305.out (fun _ hk => ⟨hk.1.1, ⟨hk.1.2, hk.2⟩⟩))), (HW.zV (Kd.V_mono HO309.out (fun _ hk => ⟨hk.1.1, ⟨hk.1.2, hk.2⟩⟩))), (HW.zV HO315.out), (HW.zV HO318.out), (HW.zV HO323.out), (HW.zV (Kd.V_mono HO_7.out (fun _ hk => ⟨hk.1.1, ⟨hk.1.2, hk.2⟩⟩))), (HW.zB BK294.out), (HW.zB BK325.out), GW325.out, GE325.out, NB294_325.out, NB325_294.out, HW.zb, hE_t324.out⟩)
          rintro ⟨v314, v317, v322, ve_t324, gb325⟩ w65 ⟨h0_, h1_, h2_, h3_, h4_, h5_, h6_, h7_, h8_, h9_, h10_, h11_, h12_, h13_, h14_⟩
          have n0_ : Aside0 (Kd.V (Kd.int .u8) 5 w65 w.heap.size (fun k_ => (P0_ k_ ∨ w.heap.size ≤ k_) ∧ k_ ≠ gb294 ∧ k_ ≠ gb325) (.slice (some ad311) t300.length co53) t300) := ⟨h0_⟩; have n1_ : Aside0 (Kd.V (Kd.int .u8) 5 w65 w.heap.size (fun k_ => (P0_ k_ ∨ w.heap.size ≤ k_) ∧ k_ ≠ gb294 ∧ k_ ≠ gb325) v304 t303) := ⟨h1_⟩; have n2_ : Aside0 (Kd.V (Kd.int .u8) 5 w65 w.heap.size (fun k_ => (P0_ k_ ∨ w.heap.size ≤ k_) ∧ k_ ≠ gb294 ∧ k_ ≠ gb325) v308 t307) := ⟨h2_⟩; have n3_ : Aside0 (Kd.V (Kd.int .u8) 5 w65 w.heap.size (fun k_ => (P0_ k_ ∨ w.heap.size ≤ k_) ∧ k_ ≠ gb294 ∧ k_ ≠ gb325) v314 t313) := ⟨h3_⟩; have n4_ : Aside0 (Kd.V (Kd.int .u8) 5 w65 w.heap.size (fun k_ => (P0_ k_ ∨ w.heap.size ≤ k_) ∧ k_ ≠ gb294 ∧ k_ ≠ gb325) v317 t316) := ⟨h4_⟩; have n5_ : Aside0 (Kd.V (Kd.int .u8) 5 w65 w.heap.size (fun k_ => (P0_ k_ ∨ w.heap.size ≤ k_) ∧ k_ ≠ gb294 ∧ k_ ≠ gb325) v322 t321) := ⟨h5_⟩; have n6_ : Aside0 (Kd.V (Kd.int .u8) 5 w65 w.heap.size (fun k_ => (P0_ k_ ∨ w.heap.size ≤ k_) ∧ k_ ≠ gb294 ∧ k_ ≠ gb325) (.slice Ao51 x7_1.length co51) x7_1) := ⟨h6_⟩; have n7_ : Aside0 (w65.heap[gb294]? = some (.cells #[.int .u8 x295000_1, .slice none 0 0] 67 (0, 0))) := ⟨h7_⟩; have n8_ : Aside0 (w65.heap[gb325]? = some (.cells #[.int .u8 0, .slice none 0 0] 67 (0, 0))) := ⟨h8_⟩; have n9_ : Aside0 (w.heap.size ≤ gb325) := ⟨h9_⟩; have n10_ : Aside0 (w.heap.size ≤ gb325) := ⟨h10_⟩; have n11_ : Aside0 (gb294 ≠ gb325) := ⟨h11_⟩; have n12_ : Aside0 (gb325 ≠ gb294) := ⟨h12_⟩
          have n13_ : Aside0 (Below w.heap.size w w65) := ⟨h13_⟩; have n14_ : Aside0 (Er.ErrR ρ ve_t324 t324) := ⟨h14_⟩; clear HO_7; clear HO302; clear HO305; clear HO309; clear BK294; clear HB; clear h0_ h1_ h2_ h3_ h4_ h5_ h6_ h7_ h8_ h9_ h10_ h11_ h12_ h13_ h14_; have HO302 := n0_; have HO305 := n1_; have HO309 := n2_; have HO315 := n3_; have HO318 := n4_; have HO323 := n5_; have HO_7 := n6_; have BK294 := n7_; have BK325 := n8_; have GW325 := n9_; have GE325 := n10_; have NB294_325 := n11_; have NB325_294 := n12_; have HB := n13_; have hE_t324 := n14_; clear n0_ n1_ n2_ n3_ n4_ n5_ n6_ n7_ n8_ n9_ n10_ n11_ n12_ n13_ n14_
          (try clear hg1)
          (try clear hg2)
          have hg1 := (HB.out.cell (World.block_lt_of_cell? w _ hgw1)).trans hgw1; have hg2 := (HB.out.cell (World.block_lt_of_cell? w _ hgw2)).trans hgw2; have hHeld := trivial; obtain ⟨Ao67, co67, eo67⟩ := Kd.V_slice HO323.out
          (first | subst eo67 | (injection eo67 with f1_ f2_ f3_; have f4_ := f1_.symm; have f5_ := f3_.symm; clear f1_ f2_ f3_; subst f4_; subst f5_))
          by_cases cE25 : t324.isNone = true
          · obtain rfl : t324 = none := Option.isNone_iff_eq_none.mp cE25
            clear cE25
            have H1 : (some (t320, t321, none)) = some (r1, r2, r3) := by rw [if_pos (show (none : Option (Int × ByteArray)).isNone = true by rfl)] at H; exact H
            clear H; have H := H1; clear H1
            simp only [Option.some.injEq, Prod.mk.injEq] at H
            obtain ⟨rfl, rfl, rfl⟩ := H
            obtain rfl := Er.ErrR.nil_ hE_t324.out
            refine norm_ (a' := ?_) ?_ ?_
            rotate_left
            · simp only [putAll, Act.put, List.setIfInBounds_toArray, List.set_cons_zero, List.set_cons_succ, errW_none]
              rfl
            refine one_ (i := 10) (N := none) #[tt,tt,tt,tt,tt,tt,tt,tt,tt,tt,tt,ff] rfl rfl (one_of HT_.out (by kernel_rfl)) (by decide) (fun K hK => ?_)
            have hs43 : w65.cell? ⟨gb325, 0, none⟩ = some (.int .u8 0) := (blk_cell BK325.out 0).trans rfl; have hfs43 := blk_frozen BK325.out 0; have hns43_0 := NB294_325.out; have hms43_0 := NB325_294.out; have hs45 : w65.cell? ⟨gb325, 1, none⟩ = some (.slice none 0 0) := (blk_cell BK325.out 1).trans rfl; have hfs45 := blk_frozen BK325.out 1; have hns45_0 := NB294_325.out; have hms45_0 := NB325_294.out
            refine skip_ (w1 := ?_) (by rfl) rfl ?_ ?_
            rotate_left
            · go_simp
              rfl
            refine hK.out _ _ trivial (fun hHeld => ?_)
            clear hK K
            refine HW.pz (i := 11) (N := some 12) #[tt,tt,tt,tt,tt,tt,tt,tt,tt,tt,tt,tt] ?_ (hc := any_of HT_.out (by kernel_rfl))
            refine done_ (done_of HT_.out (by kernel_rfl)) ?_
            have hnb46 := NB325_294.out; have hnc46 := NB294_325.out; obtain ⟨hcz47_0, hcz47_1, hfz48_0, hfz48_1⟩ := HW.k2f BK325.out; obtain ⟨hcz49_0, hcz49_1, hfz50_0, hfz50_1⟩ := HW.k2f BK294.out
            try go_wp2
            refine bodyPost_ret (results_ct rfl _ _ gb294 67 #[.int .u8 t320, .slice Ao67 t321.length co67] (0, 0) _ rfl (by (with_reducible repeat (first | refine blk_drewN ?_ _ | refine blk_drew ?_ | refine blk_alloc ?_ _)); refine blk_put (cs := #[.int .u8 t320, .slice none 0 0]) ?_ 1 _ rfl; (with_reducible repeat (first | refine blk_drewN ?_ _ | refine blk_drew ?_ | refine blk_alloc ?_ _)); refine blk_put (cs := #[.int .u8 x295000_1, .slice none 0 0]) ?_ 0 _ rfl; (with_reducible repeat (first | refine blk_drewN ?_ _ | refine blk_drew ?_ | refine blk_alloc ?_ _)); refine blk_far ?_ NB294_325.out _; (with_reducible repeat (first | refine blk_drewN ?_ _ | refine blk_drew ?_ | refine blk_alloc ?_ _)); refine blk_far ?_ NB294_325.out _; exact HW.zB BK294.out) Tryz.underlying67 rfl (by kernel_rfl)) rfl ?_
            exact ⟨_, _, rfl, (by first | exact Er.ErrR.nil | (refine Aside0.out ?_; first | with_reducible assumption | assumption) | exact Er.ErrR.val _ | exact Er.ErrR.mal _ | exact Er.ErrR.dep _ _ | (refine Er.ErrR.few _ _ ?_ ?_ <;> first | exact ⟨_, _, _, rfl⟩ | (refine Er.isl_V (Aside0.out ?_); with_reducible assumption)) | (refine Er.ErrR.sent _ _ ?_ ?_ <;> decide)), by (with_reducible repeat (first | apply Kd.V_alloc | apply Kd.V_drewN | apply Kd.V_drew)); exact Kd.V_mono (Kd.V_far (p := ⟨gb294, 1, none⟩) (Kd.V_far (p := ⟨gb294, 0, none⟩) (Kd.V_far (p := ⟨gb325, 1, none⟩) (Kd.V_far (p := ⟨gb325, 0, none⟩) (Kd.V_mono (Kd.V_mono HO323.out (fun k_ hk => (⟨hk, hk.2.2⟩ : _ ∧ k_ ≠ gb325))) (fun k_ hk => (⟨hk, hk.1.2.1⟩ : _ ∧ k_ ≠ gb294))) (fun _ hk => hk.1.2) (.int .u8 t320)) (fun _ hk => hk.1.2) (.slice Ao67 t321.length co67)) (fun _ hk => hk.2) (.int .u8 t320)) (fun _ hk => hk.2) (.slice Ao67 t321.length co67)) (fun _ hk => hk.1.1.1), HW.zb⟩
          rw [if_neg cE25] at H; replace cE25 := Aside0.mk cE25
          simp only [Option.some.injEq, Prod.mk.injEq] at H
          obtain ⟨rfl, rfl, rfl⟩ := H
          (first | (obtain rfl := Er.ErrR.nil_ hE_t324.out) | (refine (Er.ErrR.some_ hE_t324.out (Aside0.out ?hsE)).elim ?_; (case hsE => with_reducible assumption); rintro T_hE_t324 ⟨X_hE_t324, rfl⟩) | skip)
          refine norm_ (a' := ?_) ?_ ?_
          rotate_left
          · simp only [putAll, Act.put, List.setIfInBounds_toArray, List.set_cons_zero, List.set_cons_succ, errW_none]
            rfl
          refine one_ (i := 10) (N := none) #[tt,tt,tt,tt,tt,tt,tt,tt,tt,tt,tt,ff] rfl rfl (one_of HT_.out (by kernel_rfl)) (by decide) (fun K hK => ?_)
          have hs66 : w65.cell? ⟨gb325, 0, none⟩ = some (.int .u8 0) := (blk_cell BK325.out 0).trans rfl; have hfs66 := blk_frozen BK325.out 0; have hns66_0 := NB294_325.out; have hms66_0 := NB325_294.out; have hs68 : w65.cell? ⟨gb325, 1, none⟩ = some (.slice none 0 0) := (blk_cell BK325.out 1).trans rfl; have hfs68 := blk_frozen BK325.out 1; have hns68_0 := NB294_325.out; have hms68_0 := NB325_294.out
          refine skip_ (w1 := ?_) (by rfl) rfl ?_ ?_
          rotate_left
          · go_simp
            rfl
          refine hK.out _ _ trivial (fun hHeld => ?_)
          clear hK K
          refine HW.pz (i := 11) (N := some 12) #[tt,tt,tt,tt,tt,tt,tt,tt,tt,tt,tt,tt] ?_ (hc := any_of HT_.out (by kernel_rfl))
          refine done_ (done_of HT_.out (by kernel_rfl)) ?_
          have hnb69 := NB294_325.out; have hnc69 := NB325_294.out; obtain ⟨hcz70_0, hcz70_1, hfz71_0, hfz71_1⟩ := HW.k2f BK294.out
          try go_wp2
          refine bodyPost_ret (results_ct rfl _ _ gb294 67 #[.int .u8 0, .slice none 0 0] (0, 0) _ rfl (by (with_reducible repeat (first | refine blk_drewN ?_ _ | refine blk_drew ?_ | refine blk_alloc ?_ _)); refine blk_put (cs := #[.int .u8 0, .slice none 0 0]) ?_ 1 _ rfl; (with_reducible repeat (first | refine blk_drewN ?_ _ | refine blk_drew ?_ | refine blk_alloc ?_ _)); refine blk_put (cs := #[.int .u8 x295000_1, .slice none 0 0]) ?_ 0 _ rfl; (with_reducible repeat (first | refine blk_drewN ?_ _ | refine blk_drew ?_ | refine blk_alloc ?_ _)); refine blk_far ?_ NB294_325.out _; (with_reducible repeat (first | refine blk_drewN ?_ _ | refine blk_drew ?_ | refine blk_alloc ?_ _)); refine blk_far ?_ NB294_325.out _; exact HW.zB BK294.out) Tryz.underlying67 rfl (by kernel_rfl)) rfl ?_
          exact ⟨_, _, rfl, (by first | exact Er.ErrR.nil | (refine Aside0.out ?_; first | with_reducible assumption | assumption) | exact Er.ErrR.val _ | exact Er.ErrR.mal _ | exact Er.ErrR.dep _ _ | (refine Er.ErrR.few _ _ ?_ ?_ <;> first | exact ⟨_, _, _, rfl⟩ | (refine Er.isl_V (Aside0.out ?_); with_reducible assumption)) | (refine Er.ErrR.sent _ _ ?_ ?_ <;> decide)), Kd.V_nil _ _ _ _ _, HW.zb⟩
      rw [if_neg c20] at H; have c20b0 : ((rd t300 0) == 3) = false := beq_eq_false_iff_ne.mpr c20; have c20b1 : ((rd t300 0) != 3) = true := bne_iff_ne.mpr c20
      by_cases c72 : (rd t300 0) = 4
      rotate_left
      · rw [if_neg c72] at H
        have c72b0 : ((rd t300 0) == 4) = false := beq_eq_false_iff_ne.mpr c72; have c72b1 : ((rd t300 0) != 4) = true := bne_iff_ne.mpr c72; replace H := Option.bind_eq_some_iff.mp H; obtain ⟨t342, A1240, H⟩ := H; replace H : (some (0, ([] : List Int), some (95, t342))) = some (r1, r2, r3) := H; have A124 := Aside0.mk A1240; clear A1240
        as_aux_lemma =>
          simp only [Option.some.injEq, Prod.mk.injEq] at H
          obtain ⟨rfl, rfl, rfl⟩ := H; obtain ⟨Ao125, co125, eo125⟩ := Kd.V_slice HO_7.out; subst eo125
          try go_wp2_with (first | ((with_reducible refine gate_callee (f := 76) rfl ?_); refine HW.gz (some 39) rfl rfl Tryz.func76 (by kernel_rfl) rfl #[.slice Ao125 x7_1.length co125] rfl ?_; (with_reducible refine (bsoncore_ReadElement.calls k1 (fun k_ => ((P0_ k_ ∨ w.heap.size ≤ k_) ∧ k_ ≠ gb294)) _ _ x7_1 t300 t303 true _ ?side1 A13.out).mono ?_); (case side1 => exact HO_7.out); rintro e w126 ⟨v301, v304, rfl, ho0, ho1, hb⟩; refine ⟨_, rfl, ?_⟩; replace HO_7 := Aside0.mk (Kd.V_below (HW.zV HO_7.out) hb); have HO302 := Aside0.mk (Kd.V_lower (Kd.V_mono (ok' := fun k_ => (P0_ k_ ∨ w.heap.size ≤ k_) ∧ k_ ≠ gb294) ho0 (fun k_ hk_ => ⟨Or.elim hk_ (fun hs_ => hs_.1) (fun hn_ => (.inr (Nat.le_trans (below_size HW.zb) hn_))), Or.elim hk_ (fun hs_ => hs_.2) (fun hn_ => (Kd.freshB (g := gb294) (o := .cells #[.int .u8 x295000_1, .slice none 0 0] 67 (0, 0)) (HW.zB BK294.out) k_ hn_))⟩)) (below_size HW.zb)); have HO305 := Aside0.mk (Kd.V_lower (Kd.V_mono (ok' := fun k_ => (P0_ k_ ∨ w.heap.size ≤ k_) ∧ k_ ≠ gb294) ho1 (fun k_ hk_ => ⟨Or.elim hk_ (fun hs_ => hs_.1) (fun hn_ => (.inr (Nat.le_trans (below_size HW.zb) hn_))), Or.elim hk_ (fun hs_ => hs_.2) (fun hn_ => (Kd.freshB (g := gb294) (o := .cells #[.int .u8 x295000_1, .slice none 0 0] 67 (0, 0)) (HW.zB BK294.out) k_ hn_))⟩)) (below_size HW.zb)); replace BK294 := Aside0.mk (blk_below (HW.zB BK294.out) hb); replace HB := Aside0.mk (below_step HW.zb hb); (try clear hg1); (try clear hg2); have hg1 := (HB.out.cell (World.block_lt_of_cell? w _ hgw1)).trans hgw1; have hg2 := (HB.out.cell (World.block_lt_of_cell? w _ hgw2)).trans hgw2; (try clear hb); (try clear ho0); (try clear ho1); obtain ⟨Ao127, co127, eo127⟩ := Kd.V_slice HO302.out; subst eo127))
          replace HO_7 := Aside0.mk (Kd.V_drew HO_7.out); replace HO302 := Aside0.mk (Kd.V_drew HO302.out); replace HO305 := Aside0.mk (Kd.V_drew HO305.out); replace BK294 := Aside0.mk (blk_drew BK294.out); replace HB := Aside0.mk (below_drew1 HB.out)
          (try clear hg1)
          (try clear hg2)
          have hg1 := (HB.out.cell (World.block_lt_of_cell? w _ hgw1)).trans hgw1; have hg2 := (HB.out.cell (World.block_lt_of_cell? w _ hgw2)).trans hgw2
          have p310 : 0 ≤ (0 : Int) := (by omega)
          have q310 : 0 < (l1.length : Int) := HW.od
          obtain ⟨ad310, e310, hx310_0⟩ := Kd.at_string HR1.out 0 p310 q310; have hw310_0 := hx310_0
          (try rw [show ((0 : Int)).toNat = 0 from rfl] at hw310_0)
          (try rw [show 0 * 1 = 0 from rfl] at hw310_0)
          (try rw [Addr.add_zero'] at hw310_0)
          cases e310
          have qi310 : (0 < l1.length) = True := eq_true (by omega)
          (try rw [show ((0 : Int)).toNat = 0 from rfl] at hx310_0)
          (try rw [Addr.add_zero'] at hx310_0)
          replace hx310_0 := (HB.out.cell (World.block_lt_of_cell? w _ hx310_0)).trans hx310_0; replace p310 := eq_true p310; replace q310 := eq_true q310
          refine start_ (n := 7) (S := fun w' => w'.cell? ad310 = some (.string (rdOf ByteArray.empty l1 0))) (ds := []) #[ff,ff,ff,ff,ff,ff,ff] (by kernel_rfl) rfl rfl (((HB.out.cell (World.block_lt_of_cell? w _ hw310_0)).trans hw310_0)) (fun hHeld => ?_)
          generalize w126.drew = w128 at HO_7 HO302 HO305 BK294 HB hx310_0 hHeld ⊢
          refine HW.pz (i := 0) (N := some 55) #[tt,ff,ff,ff,ff,ff,ff] ?_
          refine HW.pz (i := 3) (N := some 58) #[tt,ff,ff,tt,ff,ff,ff] ?_
          refine HW.pz (i := 4) (N := some 59) #[tt,ff,ff,tt,tt,ff,ff] ?_
          refine take_ (i := 5) (N := some 60) (v := ?_) (a' := ?_) #[tt,ff,ff,tt,tt,tt,ff] rfl rfl (by kernel_rfl) (fun _ _ _ h => h) (Or.inl ⟨by rfl, ?_⟩) hHeld ?_ ?_
          rotate_left
          · intro w' s0
            go_simp
            with_reducible rfl
          rotate_left
          · exact HW.pt
          refine one_ (i := 1) (N := some 56) #[tt,tt,ff,tt,tt,tt,ff] rfl rfl (by kernel_rfl) (by decide) (fun K hK => ?_)
          refine goes_ Tryz.func77 (by kernel_rfl) rfl #[.slice Ao127 t300.length co127] (by rfl) rfl rfl HW.mt ?_
          with_reducible refine (bsoncore_Element_KeyBytes.calls (fun k_ => ((P0_ k_ ∨ w.heap.size ≤ k_) ∧ k_ ≠ gb294)) _ _ t300 t307 _ ?side1 A15.out).mono ?_
          (case side1 => exact HO302.out)
          rintro e w129 ⟨v308, rfl, ho0, hb⟩
          refine ⟨_, rfl, ?_⟩
          replace HO_7 := Aside0.mk (Kd.V_below (HW.zV HO_7.out) hb); replace HO302 := Aside0.mk (Kd.V_below (HW.zV HO302.out) hb); replace HO305 := Aside0.mk (Kd.V_below (HW.zV HO305.out) hb); have HO309 := Aside0.mk (Kd.V_lower (Kd.V_mono (ok' := fun k_ => (P0_ k_ ∨ w.heap.size ≤ k_) ∧ k_ ≠ gb294) ho0 (fun k_ hk_ => ⟨Or.elim hk_ (fun hs_ => hs_.1) (fun hn_ => (.inr (Nat.le_trans (below_size HW.zb) hn_))), Or.elim hk_ (fun hs_ => hs_.2) (fun hn_ => (Kd.freshB (g := gb294) (o := .cells #[.int .u8 x295000_1, .slice none 0 0] 67 (0, 0)) (HW.zB BK294.out) k_ hn_))⟩)) (below_size HW.zb)); replace BK294 := Aside0.mk (blk_below (HW.zB BK294.out) hb); replace HB := Aside0.mk (below_step HW.zb hb)
          (try clear hg1)
          (try clear hg2)
          have hg1 := (HB.out.cell (World.block_lt_of_cell? w _ hgw1)).trans hgw1; have hg2 := (HB.out.cell (World.block_lt_of_cell? w _ hgw2)).trans hgw2
          (try clear hb)
          (try clear hk)
          (try clear ho0)
          refine hK.out _ _ (((HB.out.cell (World.block_lt_of_cell? w _ hw310_0)).trans hw310_0)) (fun hHeld => ?_)
          clear hK K
          refine HW.nz (N := (some 56)) ?_
          refine one_ (i := 2) (N := some 57) #[tt,tt,tt,tt,tt,tt,ff] rfl rfl (by kernel_rfl) (by decide) (fun K hK => ?_)
          have hcv130 := HW.V_string (P := Tryz.prog) Tryz.underlying22 Tryz.underlying5 Tryz.underlying9 (HO309.out)
          refine value_ (w1 := ?_) (v := ?_) (by rfl) rfl ?_ ?_
          rotate_left 2
          · go_simp
            constructor
            · rfl
            rfl
          clear hcv130
          refine hK.out _ _ (((HB.out.cell (World.block_lt_of_cell? w _ hw310_0)).trans hw310_0)) (fun hHeld => ?_)
          clear hK K
          refine HW.nz (N := (some 57)) ?_
          refine HW.pz (i := 6) (N := some 61) #[tt,tt,tt,tt,tt,tt,tt] ?_
          refine done_ (by kernel_rfl) ?_
          have p311 : 0 ≤ (0 : Int) := (by omega)
          have q311 : 0 < (t300.length : Int) := HW.od
          obtain ⟨ad311, e311, hx311_0⟩ := Kd.at_int (Kd.V_reads' HO302.out).2.2 0 p311 q311
          cases e311
          have qi311 : (0 < t300.length) = True := eq_true (by omega)
          (try rw [show ((0 : Int)).toNat = 0 from rfl] at hx311_0)
          (try rw [Addr.add_zero'] at hx311_0)
          replace p311 := eq_true p311; replace q311 := eq_true q311
          try go_wp2_with (first | ((with_reducible refine gate_callee (f := 80) rfl ?_); refine HW.gz (some 71) rfl rfl Tryz.func80 (by kernel_rfl) rfl #[.slice (some ad311) t300.length co127] rfl ?_; (with_reducible refine (bsoncore_Element_Key.calls _ _ t300 t342 _ ?side1 ?side2 A124.out).mono ?_); (case side1 => repeat (first | exact (Kd.V_reads' HO302.out).2.2 | (with_reducible refine Kd.C_alloc ?_ _) | (with_reducible refine Kd.C_drewN ?_ _) | (with_reducible refine Kd.C_drew ?_))); (case side2 => exact (Kd.V_reads' HO302.out).2.1); rintro e w131 ⟨rfl, hb⟩; refine ⟨_, rfl, ?_⟩; replace HO_7 := Aside0.mk (Kd.V_below (HW.zV HO_7.out) hb); replace HO302 := Aside0.mk (Kd.V_below (HW.zV HO302.out) hb); replace HO305 := Aside0.mk (Kd.V_below (HW.zV HO305.out) hb); replace HO309 := Aside0.mk (Kd.V_below (HW.zV HO309.out) hb); replace BK294 := Aside0.mk (blk_below (HW.zB BK294.out) hb); replace HB := Aside0.mk (below_step HW.zb hb); (try clear hg1); (try clear hg2); have hg1 := (HB.out.cell (World.block_lt_of_cell? w _ hgw1)).trans hgw1; have hg2 := (HB.out.cell (World.block_lt_of_cell? w _ hgw2)).trans hgw2; (try clear hb); obtain ⟨hcz132_0, hcz132_1, hfz133_0, hfz133_1⟩ := HW.k2f BK294.out))
          refine bodyPost_ret (results_ct rfl _ _ gb294 67 #[.int .u8 0, .slice none 0 0] (0, 0) _ rfl (by (with_reducible repeat (first | refine blk_drewN ?_ _ | refine blk_drew ?_ | refine blk_alloc ?_ _)); refine blk_put (cs := #[.int .u8 0, .slice none 0 0]) ?_ 1 _ rfl; (with_reducible repeat (first | refine blk_drewN ?_ _ | refine blk_drew ?_ | refine blk_alloc ?_ _)); refine blk_put (cs := #[.int .u8 x295000_1, .slice none 0 0]) ?_ 0 _ rfl; exact HW.zB BK294.out) Tryz.underlying67 rfl (by kernel_rfl)) rfl ?_
          exact ⟨_, _, rfl, (by first | exact Er.ErrR.nil | (refine Aside0.out ?_; first | with_reducible assumption | assumption) | exact Er.ErrR.val _ | exact Er.ErrR.mal _ | exact Er.ErrR.dep _ _ | (refine Er.ErrR.few _ _ ?_ ?_ <;> first | exact ⟨_, _, _, rfl⟩ | (refine Er.isl_V (Aside0.out ?_); with_reducible assumption)) | (refine Er.ErrR.sent _ _ ?_ ?_ <;> decide)), Kd.V_nil _ _ _ _ _, HW.zb⟩
      rw [if_pos c72] at H; have c72b0 : ((rd t300 0) == 4) = true := beq_iff_eq.mpr c72; have c72b1 : ((rd t300 0) != 4) = false := bne_eq_false_iff_eq.mpr c72; clear c72; replace H := Option.bind_eq_some_iff.mp H; obtain ⟨⟨t327, t328⟩, A730, H⟩ := H; replace H : ((bsoncore_Value_Array.f t327 t328).bind fun t331 => (if 1 ≤ (l1.length : Int) then ((bsoncore_Document_LookupErr.f k1 t331 (l1.drop 1)).bind fun bt335 => (if bt335.2.2.isNone = true then (some (bt335.1, bt335.2.1, none)) else (some (0, ([] : List Int), bt335.2.2)))) else (none))) = some (r1, r2, r3) := H; have A73 := Aside0.mk A730; clear A730; replace H := Option.bind_eq_some_iff.mp H; obtain ⟨t331, A740, H⟩ := H; replace H : (if 1 ≤ (l1.length : Int) then ((bsoncore_Document_LookupErr.f k1 t331 (l1.drop 1)).bind fun bt335 => (if bt335.2.2.isNone = true then (some (bt335.1, bt335.2.1, none)) else (some (0, ([] : List Int), bt335.2.2)))) else (none)) = some (r1, r2, r3) := H; have A74 := Aside0.mk A740; clear A740
      by_cases c75 : 1 ≤ (l1.length : Int)
      rotate_left
      · rw [if_neg c75] at H
        exact absurd H (by simp)
      rw [if_pos c75] at H; have c75b0 := eq_true c75; have c75b1 : decide (1 ≤ (l1.length : Int)) = true := decide_eq_true c75; clear c75; replace H := Option.bind_eq_some_iff.mp H; obtain ⟨⟨t335, t336, t339⟩, A760, H⟩ := H; replace H : (if t339.isNone = true then (some (t335, t336, none)) else (some (0, ([] : List Int), t339))) = some (r1, r2, r3) := H; have A76 := Aside0.mk A760; clear A760
      as_aux_lemma =>
        obtain ⟨Ao103, co103, eo103⟩ := Kd.V_slice HO_7.out; subst eo103
        try go_wp2_with (first | ((with_reducible refine gate_callee (f := 76) rfl ?_); refine HW.gz (some 39) rfl rfl Tryz.func76 (by kernel_rfl) rfl #[.slice Ao103 x7_1.length co103] rfl ?_; (with_reducible refine (bsoncore_ReadElement.calls k1 (fun k_ => ((P0_ k_ ∨ w.heap.size ≤ k_) ∧ k_ ≠ gb294)) _ _ x7_1 t300 t303 true _ ?side1 A13.out).mono ?_); (case side1 => exact HO_7.out); rintro e w104 ⟨v301, v304, rfl, ho0, ho1, hb⟩; refine ⟨_, rfl, ?_⟩; replace HO_7 := Aside0.mk (Kd.V_below (HW.zV HO_7.out) hb); have HO302 := Aside0.mk (Kd.V_lower (Kd.V_mono (ok' := fun k_ => (P0_ k_ ∨ w.heap.size ≤ k_) ∧ k_ ≠ gb294) ho0 (fun k_ hk_ => ⟨Or.elim hk_ (fun hs_ => hs_.1) (fun hn_ => (.inr (Nat.le_trans (below_size HW.zb) hn_))), Or.elim hk_ (fun hs_ => hs_.2) (fun hn_ => (Kd.freshB (g := gb294) (o := .cells #[.int .u8 x295000_1, .slice none 0 0] 67 (0, 0)) (HW.zB BK294.out) k_ hn_))⟩)) (below_size HW.zb)); have HO305 := Aside0.mk (Kd.V_lower (Kd.V_mono (ok' := fun k_ => (P0_ k_ ∨ w.heap.size ≤ k_) ∧ k_ ≠ gb294) ho1 (fun k_ hk_ => ⟨Or.elim hk_ (fun hs_ => hs_.1) (fun hn_ => (.inr (Nat.le_trans (below_size HW.zb) hn_))), Or.elim hk_ (fun hs_ => hs_.2) (fun hn_ => (Kd.freshB (g := gb294) (o := .cells #[.int .u8 x295000_1, .slice none 0 0] 67 (0, 0)) (HW.zB BK294.out) k_ hn_))⟩)) (below_size HW.zb)); replace BK294 := Aside0.mk (blk_below (HW.zB BK294.out) hb); replace HB := Aside0.mk (below_step HW.zb hb); (try clear hg1); (try clear hg2); have hg1 := (HB.out.cell (World.block_lt_of_cell? w _ hgw1)).trans hgw1; have hg2 := (HB.out.cell (World.block_lt_of_cell? w _ hgw2)).trans hgw2; (try clear hb); (try clear ho0); (try clear ho1); obtain ⟨Ao105, co105, eo105⟩ := Kd.V_slice HO302.out; subst eo105))
        replace HO_7 := Aside0.mk (Kd.V_drew HO_7.out); replace HO302 := Aside0.mk (Kd.V_drew HO302.out); replace HO305 := Aside0.mk (Kd.V_drew HO305.out); replace BK294 := Aside0.mk (blk_drew BK294.out); replace HB := Aside0.mk (below_drew1 HB.out)
        (try clear hg1)
        (try clear hg2)
        have hg1 := (HB.out.cell (World.block_lt_of_cell? w _ hgw1)).trans hgw1; have hg2 := (HB.out.cell (World.block_lt_of_cell? w _ hgw2)).trans hgw2
        have p310 : 0 ≤ (0 : Int) := (by omega)
        have q310 : 0 < (l1.length : Int) := HW.od
        obtain ⟨ad310, e310, hx310_0⟩ := Kd.at_string HR1.out 0 p310 q310; have hw310_0 := hx310_0
        (try rw [show ((0 : Int)).toNat = 0 from rfl] at hw310_0)
        (try rw [show 0 * 1 = 0 from rfl] at hw310_0)
        (try rw [Addr.add_zero'] at hw310_0)
        cases e310
        have qi310 : (0 < l1.length) = True := eq_true (by omega)
        (try rw [show ((0 : Int)).toNat = 0 from rfl] at hx310_0)
        (try rw [Addr.add_zero'] at hx310_0)
        replace hx310_0 := (HB.out.cell (World.block_lt_of_cell? w _ hx310_0)).trans hx310_0; replace p310 := eq_true p310; replace q310 := eq_true q310
        refine start_ (n := 7) (S := fun w' => w'.cell? ad310 = some (.string (rdOf ByteArray.empty l1 0))) (ds := []) #[ff,ff,ff,ff,ff,ff,ff] (by kernel_rfl) rfl rfl (((HB.out.cell (World.block_lt_of_cell? w _ hw310_0)).trans hw310_0)) (fun hHeld => ?_)
        generalize w104.drew = w106 at HO_7 HO302 HO305 BK294 HB hx310_0 hHeld ⊢
        refine HW.pz (i := 0) (N := some 55) #[tt,ff,ff,ff,ff,ff,ff] ?_
        refine HW.pz (i := 3) (N := some 58) #[tt,ff,ff,tt,ff,ff,ff] ?_
        refine HW.pz (i := 4) (N := some 59) #[tt,ff,ff,tt,tt,ff,ff] ?_
        refine take_ (i := 5) (N := some 60) (v := ?_) (a' := ?_) #[tt,ff,ff,tt,tt,tt,ff] rfl rfl (by kernel_rfl) (fun _ _ _ h => h) (Or.inl ⟨by rfl, ?_⟩) hHeld ?_ ?_
        rotate_left
        · intro w' s0
          go_simp
          with_reducible rfl
        rotate_left
        · exact HW.pt
        refine one_ (i := 1) (N := some 56) #[tt,tt,ff,tt,tt,tt,ff] rfl rfl (by kernel_rfl) (by decide) (fun K hK => ?_)
        refine goes_ Tryz.func77 (by kernel_rfl) rfl #[.slice Ao105 t300.length co105] (by rfl) rfl rfl HW.mt ?_
        with_reducible refine (bsoncore_Element_KeyBytes.calls (fun k_ => ((P0_ k_ ∨ w.heap.size ≤ k_) ∧ k_ ≠ gb294)) _ _ t300 t307 _ ?side1 A15.out).mono ?_
        (case side1 => exact HO302.out)
        rintro e w107 ⟨v308, rfl, ho0, hb⟩
        refine ⟨_, rfl, ?_⟩
        replace HO_7 := Aside0.mk (Kd.V_below (HW.zV HO_7.out) hb); replace HO302 := Aside0.mk (Kd.V_below (HW.zV HO302.out) hb); replace HO305 := Aside0.mk (Kd.V_below (HW.zV HO305.out) hb); have HO309 := Aside0.mk (Kd.V_lower (Kd.V_mono (ok' := fun k_ => (P0_ k_ ∨ w.heap.size ≤ k_) ∧ k_ ≠ gb294) ho0 (fun k_ hk_ => ⟨Or.elim hk_ (fun hs_ => hs_.1) (fun hn_ => (.inr (Nat.le_trans (below_size HW.zb) hn_))), Or.elim hk_ (fun hs_ => hs_.2) (fun hn_ => (Kd.freshB (g := gb294) (o := .cells #[.int .u8 x295000_1, .slice none 0 0] 67 (0, 0)) (HW.zB BK294.out) k_ hn_))⟩)) (below_size HW.zb)); replace BK294 := Aside0.mk (blk_below (HW.zB BK294.out) hb); replace HB := Aside0.mk (below_step HW.zb hb)
        (try clear hg1)
        (try clear hg2)
        have hg1 := (HB.out.cell (World.block_lt_of_cell? w _ hgw1)).trans hgw1; have hg2 := (HB.out.cell (World.block_lt_of_cell? w _ hgw2)).trans hgw2
        (try clear hb)
        (try clear hk)
        (try clear ho0)
        refine hK.out _ _ (((HB.out.cell (World.block_lt_of_cell? w _ hw310_0)).trans hw310_0)) (fun hHeld => ?_)
        clear hK K
        refine HW.nz (N := (some 56)) ?_
        refine one_ (i := 2) (N := some 57) #[tt,tt,tt,tt,tt,tt,ff] rfl rfl (by kernel_rfl) (by decide) (fun K hK => ?_)
        have hcv108 := HW.V_string (P := Tryz.prog) Tryz.underlying22 Tryz.underlying5 Tryz.underlying9 (HO309.out)
        refine value_ (w1 := ?_) (v := ?_) (by rfl) rfl ?_ ?_
        rotate_left 2
        · go_simp
          constructor
          · rfl
          rfl
        clear hcv108
        refine hK.out _ _ (((HB.out.cell (World.block_lt_of_cell? w _ hw310_0)).trans hw310_0)) (fun hHeld => ?_)
        clear hK K
        refine HW.nz (N := (some 57)) ?_
        refine HW.pz (i := 6) (N := some 61) #[tt,tt,tt,tt,tt,tt,tt] ?_
        refine done_ (by kernel_rfl) ?_
        have p311 : 0 ≤ (0 : Int) := (by omega)
        have q311 : 0 < (t300.length : Int) := HW.od
        obtain ⟨ad311, e311, hx311_0⟩ := Kd.at_int (Kd.V_reads' HO302.out).2.2 0 p311 q311
        cases e311
        have qi311 : (0 < t300.length) = True := eq_true (by omega)
        (try rw [show ((0 : Int)).toNat = 0 from rfl] at hx311_0)
        (try rw [Addr.add_zero'] at hx311_0)
        replace p311 := eq_true p311; replace q311 := eq_true q311
        try go_wp2
        replace HO_7 := Aside0.mk (Kd.V_drew HO_7.out); replace HO302 := Aside0.mk (Kd.V_drew HO302.out); replace HO305 := Aside0.mk (Kd.V_drew HO305.out); replace HO309 := Aside0.mk (Kd.V_drew HO309.out); replace BK294 := Aside0.mk (blk_drew BK294.out); replace HB := Aside0.mk (below_drew1 HB.out)
        (try clear hg1)
        (try clear hg2)
        have hg1 := (HB.out.cell (World.block_lt_of_cell? w _ hgw1)).trans hgw1; have hg2 := (HB.out.cell (World.block_lt_of_cell? w _ hgw2)).trans hgw2; obtain ⟨i0110, hi0110, _, hsz110, _⟩ := info_parts info9
        obtain ⟨A110, hcut110, hA110, hC110⟩ := print_drop_of (P := Tryz.prog) Value.string (⟨#[]⟩ : ByteArray) 40 9 .i64 Tryz.underlying40 hi0110 hsz110 (some ad310) c1 l1 1 (by omega) (HW.od) HC1.out
        have HR334 := Aside0.mk (Kd.C_of_reads (h1 := fun _ => rfl) (hA110 _ (Kd.reads_of_C HR1.out))); have HC334 := Aside0.mk hC110; clear hA110 hC110 hi0110 hsz110
        refine start_ (n := 12) (S := fun w' => True) (ds := []) #[ff,ff,ff,ff,ff,ff,ff,ff,ff,ff,ff,ff] (by kernel_rfl) rfl rfl trivial (fun hHeld => ?_); refine with_tabW bsoncore_Document_LookupErr.tab24 bsoncore_Document_LookupErr.bits24 (fun HT_ HW_ => ?_)
        generalize w107.drew = w109 at HO_7 HO302 HO305 HO309 BK294 HB HR334 hHeld ⊢
        refine HW.pz (i := 0) (N := some 94) #[tt,ff,ff,ff,ff,ff,ff,ff,ff,ff,ff,ff] ?_ (hc := any_of HT_.out (by kernel_rfl))
        refine HW.pz (i := 3) (N := some 97) #[tt,ff,ff,tt,ff,ff,ff,ff,ff,ff,ff,ff] ?_ (hc := any_of HT_.out (by kernel_rfl))
        refine HW.pz (i := 4) (N := some 98) #[tt,ff,ff,tt,tt,ff,ff,ff,ff,ff,ff,ff] ?_ (hc := any_of HT_.out (by kernel_rfl))
        refine join_ (σ := Value × Value × Value × Value × Nat) 2 #[tt,tt,tt,tt,tt,tt,tt,tt,tt,tt,ff,ff] (fun s_ => [(95, .agg #[.int .u8 t327, s_.1]), (96, s_.2.1), (99, .tuple #[.agg #[.int .u8 t335, s_.2.2.1], s_.2.2.2.1]), (13, .pointer (some ⟨s_.2.2.2.2, 0, none⟩)), (93, .tuple #[.agg #[.int .u8 t335, s_.2.2.1], s_.2.2.2.1]), (100, .agg #[.int .u8 t335, s_.2.2.1]), (101, s_.2.2.2.1)]) (fun s_ w' => (Kd.V (Kd.int .u8) 5 w' w.heap.size (fun k_ => (P0_ k_ ∨ w.heap.size ≤ k_) ∧ k_ ≠ gb294 ∧ k_ ≠ s_.2.2.2.2) (.slice (some ad311) t300.length co105) t300) ∧ (Kd.V (Kd.int .u8) 5 w' w.heap.size (fun k_ => (P0_ k_ ∨ w.heap.size ≤ k_) ∧ k_ ≠ gb294 ∧ k_ ≠ s_.2.2.2.2) v304 t303) ∧ (Kd.V (Kd.int .u8) 5 w' w.heap.size (fun k_ => (P0_ k_ ∨ w.heap.size ≤ k_) ∧ k_ ≠ gb294 ∧ k_ ≠ s_.2.2.2.2) v308 t307) ∧ (Kd.V (Kd.int .u8) 5 w' w.heap.size (fun k_ => (P0_ k_ ∨ w.heap.size ≤ k_) ∧ k_ ≠ gb294 ∧ k_ ≠ s_.2.2.2.2) s_.1 t328) ∧ (Kd.V (Kd.int .u8) 5 w' w.heap.size (fun k_ => (P0_ k_ ∨ w.heap.size ≤ k_) ∧ k_ ≠ gb294 ∧ k_ ≠ s_.2.2.2.2) s_.2.1 t331) ∧ (Kd.V (Kd.int .u8) 5 w' w.heap.size (fun k_ => (P0_ k_ ∨ w.heap.size ≤ k_) ∧ k_ ≠ gb294 ∧ k_ ≠ s_.2.2.2.2) s_.2.2.1 t336) ∧ (Kd.V (Kd.int .u8) 5 w' w.heap.size (fun k_ => (P0_ k_ ∨ w.heap.size ≤ k_) ∧ k_ ≠ gb294 ∧ k_ ≠ s_.2.2.2.2) (.slice Ao103 x7_1.length co103) x7_1) ∧ (w'.heap[gb294]? = some (.cells #[.int .u8 x295000_1, .slice none 0 0] 67 (0, 0))) ∧ (w'.heap[s_.2.2.2.2]? = some (.cells #[.int .u8 0, .slice none 0 0] 67 (0, 0))) ∧ (w.heap.size ≤ s_.2.2.2.2) ∧ (w.heap.size ≤ s_.2.2.2.2) ∧ (gb294 ≠ s_.2.2.2.2) ∧ (s_.2.2.2.2 ≠ gb294) ∧ (Below w.heap.size w w') ∧ (Er.ErrR ρ s_.2.2.2.1 t339)) ?_ ?_
        rotate_left
        · intro hCont
          refine two_ (i := 1) (j := 9) (Ni := some 95) (Nj := some 13) #[tt,tt,ff,tt,tt,ff,ff,ff,ff,ff,ff,ff] #[tt,ff,ff,tt,tt,ff,ff,ff,ff,tt,ff,ff] rfl rfl rfl rfl (two_of HT_.out (by kernel_rfl)) (by decide) (by decide) (fun K hK => ?_) (fun K hK => ?_)
          · skip
            refine goes_ Tryz.func44 (by kernel_rfl) rfl #[.slice (some ad311) t300.length co105] (by rfl) rfl rfl HW.mt ?_
            with_reducible refine (bsoncore_Element_Value.calls k1 (fun k_ => ((P0_ k_ ∨ w.heap.size ≤ k_) ∧ k_ ≠ gb294)) _ _ t300 t327 t328 _ ?side1 A73.out).mono ?_
            (case side1 => exact HO302.out)
            rintro e w111 ⟨v329, rfl, ho0, hb⟩
            refine ⟨_, rfl, ?_⟩
            replace HO_7 := Aside0.mk (Kd.V_below (HW.zV HO_7.out) hb); replace HO302 := Aside0.mk (Kd.V_below (HW.zV HO302.out) hb); replace HO305 := Aside0.mk (Kd.V_below (HW.zV HO305.out) hb); replace HO309 := Aside0.mk (Kd.V_below (HW.zV HO309.out) hb); have HO330 := Aside0.mk (Kd.V_lower (Kd.V_mono (ok' := fun k_ => (P0_ k_ ∨ w.heap.size ≤ k_) ∧ k_ ≠ gb294) ho0 (fun k_ hk_ => ⟨Or.elim hk_ (fun hs_ => hs_.1) (fun hn_ => (.inr (Nat.le_trans (below_size HW.zb) hn_))), Or.elim hk_ (fun hs_ => hs_.2) (fun hn_ => (Kd.freshB (g := gb294) (o := .cells #[.int .u8 x295000_1, .slice none 0 0] 67 (0, 0)) (HW.zB BK294.out) k_ hn_))⟩)) (below_size HW.zb)); replace BK294 := Aside0.mk (blk_below (HW.zB BK294.out) hb); replace HB := Aside0.mk (below_step HW.zb hb)
            (try clear hg1)
            (try clear hg2)
            have hg1 := (HB.out.cell (World.block_lt_of_cell? w _ hgw1)).trans hgw1; have hg2 := (HB.out.cell (World.block_lt_of_cell? w _ hgw2)).trans hgw2
            (try clear hb)
            (try clear hk)
            (try clear ho0)
            obtain ⟨Ao112, co112, eo112⟩ := Kd.V_slice HO330.out
            (first | subst eo112 | (injection eo112 with f1_ f2_ f3_; have f4_ := f1_.symm; have f5_ := f3_.symm; clear f1_ f2_ f3_; subst f4_; subst f5_))
            refine hK.out _ _ trivial (fun hHeld => ?_)
            clear hK K
            refine HW.nz (N := (some 95)) ?_
            refine two_ (i := 2) (j := 9) (Ni := some 96) (Nj := some 13) #[tt,tt,tt,tt,tt,ff,ff,ff,ff,ff,ff,ff] #[tt,tt,ff,tt,tt,ff,ff,ff,ff,tt,ff,ff] rfl rfl rfl rfl (two_of HT_.out (by kernel_rfl)) (by decide) (by decide) (fun K hK => ?_) (fun K hK => ?_)
            · skip
              refine goes_ Tryz.func79 (by kernel_rfl) rfl #[.agg #[.int .u8 t327, .slice Ao112 t328.length co112]] (by rfl) rfl rfl HW.mt ?_
              with_reducible refine (bsoncore_Value_Array.calls t327 (fun k_ => ((P0_ k_ ∨ w.heap.size ≤ k_) ∧ k_ ≠ gb294)) _ _ t328 t331 _ ?side1 A74.out).mono ?_
              (case side1 => exact HO330.out)
              rintro e w113 ⟨v332, rfl, ho0, hb⟩
              refine ⟨_, rfl, ?_⟩
              replace HO_7 := Aside0.mk (Kd.V_below (HW.zV HO_7.out) hb); replace HO302 := Aside0.mk (Kd.V_below (HW.zV HO302.out) hb); replace HO305 := Aside0.mk (Kd.V_below (HW.zV HO305.out) hb); replace HO309 := Aside0.mk (Kd.V_below (HW.zV HO309.out) hb); replace HO330 := Aside0.mk (Kd.V_below (HW.zV HO330.out) hb); have HO333 := Aside0.mk (Kd.V_lower (Kd.V_mono (ok' := fun k_ => (P0_ k_ ∨ w.heap.size ≤ k_) ∧ k_ ≠ gb294) ho0 (fun k_ hk_ => ⟨Or.elim hk_ (fun hs_ => hs_.1) (fun hn_ => (.inr (Nat.le_trans (below_size HW.zb) hn_))), Or.elim hk_ (fun hs_ => hs_.2) (fun hn_ => (Kd.freshB (g := gb294) (o := .cells #[.int .u8 x295000_1, .slice none 0 0] 67 (0, 0)) (HW.zB BK294.out) k_ hn_))⟩)) (below_size HW.zb)); replace BK294 := Aside0.mk (blk_below (HW.zB BK294.out) hb); replace HB := Aside0.mk (below_step HW.zb hb)
              (try clear hg1)
              (try clear hg2)
              have hg1 := (HB.out.cell (World.block_lt_of_cell? w _ hgw1)).trans hgw1; have hg2 := (HB.out.cell (World.block_lt_of_cell? w _ hgw2)).trans hgw2
              (try clear hb)
              (try clear hk)
              (try clear ho0)
              obtain ⟨Ao114, co114, eo114⟩ := Kd.V_slice HO333.out
              (first | subst eo114 | (injection eo114 with f1_ f2_ f3_; have f4_ := f1_.symm; have f5_ := f3_.symm; clear f1_ f2_ f3_; subst f4_; subst f5_))
              refine hK.out _ _ trivial (fun hHeld => ?_)
              clear hK K
              refine HW.nz (N := (some 96)) ?_
              refine two_ (i := 5) (j := 9) (Ni := some 99) (Nj := some 13) #[tt,tt,tt,tt,tt,tt,ff,ff,ff,ff,ff,ff] #[tt,tt,tt,tt,tt,ff,ff,ff,ff,tt,ff,ff] rfl rfl rfl rfl (two_of HT_.out (by kernel_rfl)) (by decide) (by decide) (fun K hK => ?_) (fun K hK => ?_)
              · skip
                refine goes_ Tryz.func35 (by kernel_rfl) rfl #[.slice Ao114 t331.length co114, .slice A110 (l1.drop 1).length (c1 - 1)] (by rfl) rfl rfl (by (try simp only [List.map_toArray, List.map_cons, List.map_nil]); first | done | (rw [show (l1.drop 1).length = (l1.length - 1) from List.length_drop] <;> rfl) | rfl | (simp only [List.length_drop, List.length_take]; rfl)) ?_
                with_reducible refine (ih k1 (by have := HK1.out; omega) (fun k_ => ((P0_ k_ ∨ w.heap.size ≤ k_) ∧ k_ ≠ gb294)) _ _ t331 _ _ (l1.drop 1) t335 t336 t339 _ ?aLD ?side1 ?side2 ?side3 A76.out).mono ?_
                (case aLD => exact Er.LaidE.below HL_.out (by repeat (first | (with_reducible first | exact HB.out | apply below_alloc | apply pw_below_drewN | apply below_drew1 | refine below_set ?_ GE294.out | refine below_set ?_ GE325.out | refine below_set ?_ GE340.out) | exact HB.out)))
                (case side1 => exact HO333.out)
                (case side2 => repeat (first | exact (Kd.C_below HR334.out HB.out) | (with_reducible refine Kd.C_alloc ?_ _) | (with_reducible refine Kd.C_drewN ?_ _) | (with_reducible refine Kd.C_drew ?_)))
                (case side3 => exact HC334.out)
                rintro e w115 ⟨v337, ve_t339, rfl, hE_t339, ho0, hb⟩
                refine ⟨_, rfl, ?_⟩
                replace HO_7 := Aside0.mk (Kd.V_below (HW.zV HO_7.out) hb); replace HO302 := Aside0.mk (Kd.V_below (HW.zV HO302.out) hb); replace HO305 := Aside0.mk (Kd.V_below (HW.zV HO305.out) hb); replace HO309 := Aside0.mk (Kd.V_below (HW.zV HO309.out) hb); replace HO330 := Aside0.mk (Kd.V_below (HW.zV HO330.out) hb); replace HO333 := Aside0.mk (Kd.V_below (HW.zV HO333.out) hb); have HO338 := Aside0.mk (Kd.V_lower (Kd.V_mono (ok' := fun k_ => (P0_ k_ ∨ w.heap.size ≤ k_) ∧ k_ ≠ gb294) ho0 (fun k_ hk_ => ⟨Or.elim hk_ (fun hs_ => hs_.1) (fun hn_ => (.inr (Nat.le_trans (below_size HW.zb) hn_))), Or.elim hk_ (fun hs_ => hs_.2) (fun hn_ => (Kd.freshB (g := gb294) (o := .cells #[.int .u8 x295000_1, .slice none 0 0] 67 (0, 0)) (HW.zB BK294.out) k_ hn_))⟩)) (below_size HW.zb)); replace BK294 := Aside0.mk (blk_below (HW.zB BK294.out) hb); replace HB := Aside0.mk (below_step HW.zb hb)
                (try clear hg1)
                (try clear hg2)
                have hg1 := (HB.out.cell (World.block_lt_of_cell? w _ hgw1)).trans hgw1; have hg2 := (HB.out.cell (World.block_lt_of_cell? w _ hgw2)).trans hgw2
                (try clear hb)
                (try clear hk)
                (try clear ho0)
                replace hE_t339 := Aside0.mk hE_t339
                refine hK.out _ _ trivial (fun hHeld => ?_)
                clear hK K
                refine HW.nz (N := (some 99)) ?_
                refine HW.pz (i := 6) (N := some 93) #[tt,tt,tt,tt,tt,tt,tt,ff,ff,ff,ff,ff] ?_ (hc := any_of HT_.out (by kernel_rfl))
                refine HW.pz (i := 7) (N := some 100) #[tt,tt,tt,tt,tt,tt,tt,tt,ff,ff,ff,ff] ?_ (hc := any_of HT_.out (by kernel_rfl))
                refine HW.pz (i := 8) (N := some 101) #[tt,tt,tt,tt,tt,tt,tt,tt,tt,ff,ff,ff] ?_ (hc := any_of HT_.out (by kernel_rfl))
                refine one_ (i := 9) (N := some 13) #[tt,tt,tt,tt,tt,tt,tt,tt,tt,tt,ff,ff] rfl rfl (one_of HT_.out (by kernel_rfl)) (by decide) (fun K hK => ?_)
                refine box_step ?hg (N := 13) ?hd (cs := #[.int .u8 0, .slice none 0 0]) (t := 67) ?hr ?_; (case hd => rfl); (case hg => rfl); (case hr => first | (go_simp; done) | (go_simp; rfl))
                intro gb340 hg w116 hbox hb
                have n0_ := Aside0.mk (Kd.V_below (Kd.V_elderB (HW.zV HO_7.out) gb340 (Nat.le_of_eq hg.symm)) hb); have n1_ := Aside0.mk (Kd.V_below (Kd.V_elderB (HW.zV HO302.out) gb340 (Nat.le_of_eq hg.symm)) hb); have n2_ := Aside0.mk (Kd.V_below (Kd.V_elderB (HW.zV HO305.out) gb340 (Nat.le_of_eq hg.symm)) hb); have n3_ := Aside0.mk (Kd.V_below (Kd.V_elderB (HW.zV HO309.out) gb340 (Nat.le_of_eq hg.symm)) hb); have n4_ := Aside0.mk (Kd.V_below (Kd.V_elderB (HW.zV HO330.out) gb340 (Nat.le_of_eq hg.symm)) hb); have n5_ := Aside0.mk (Kd.V_below (Kd.V_elderB (HW.zV HO333.out) gb340 (Nat.le_of_eq hg.symm)) hb); have n6_ := Aside0.mk (Kd.V_below (Kd.V_elderB (HW.zV HO338.out) gb340 (Nat.le_of_eq hg.symm)) hb); have n7_ := Aside0.mk (blk_below (HW.zB BK294.out) hb); have n8_ := Aside0.mk (below_step HW.zb hb); have n9_ := Aside0.mk (hbox)
                have n10_ := Aside0.mk ((by rw [hg]; exact (below_size HW.zb) : w.heap.size ≤ gb340))
                have n11_ := Aside0.mk ((by rw [hg]; exact (below_size HW.zb) : w.heap.size ≤ gb340))
                have n12_ := Aside0.mk ((by rw [hg]; exact Nat.ne_of_lt (blk_lt (g := gb294) (o := .cells #[.int .u8 x295000_1, .slice none 0 0] 67 (0, 0)) (HW.zB BK294.out)) : gb294 ≠ gb340))
                have n13_ := Aside0.mk ((by rw [hg]; exact Nat.ne_of_gt (blk_lt (g := gb294) (o := .cells #[.int .u8 x295000_1, .slice none 0 0] 67 (0, 0)) (HW.zB BK294.out)) : gb340 ≠ gb294))
                clear HO_7; clear HO302; clear HO305; clear HO309; clear HO330; clear HO333; clear HO338; clear BK294; clear HB; have HO_7 := n0_; have HO302 := n1_; have HO305 := n2_; have HO309 := n3_; have HO330 := n4_; have HO333 := n5_; have HO338 := n6_; have BK294 := n7_; have HB := n8_; have BK340 := n9_; have GW340 := n10_; have GE340 := n11_; have NB294_340 := n12_; have NB340_294 := n13_; clear n0_ n1_ n2_ n3_ n4_ n5_ n6_ n7_ n8_ n9_ n10_ n11_ n12_ n13_
                (try clear hg1)
                (try clear hg2)
                have hg1 := (HB.out.cell (World.block_lt_of_cell? w _ hgw1)).trans hgw1; have hg2 := (HB.out.cell (World.block_lt_of_cell? w _ hgw2)).trans hgw2; clear hb hbox hg
                refine hK.out _ _ trivial (fun hHeld => ?_)
                clear hK K
                refine HW.nz (N := (some 13)) ?_
                exact norm_ (by simp only [putAll, Act.put, List.setIfInBounds_toArray, List.set_cons_zero, List.set_cons_succ, errW_none]) (hCont (.slice Ao112 t328.length co112, .slice Ao114 t331.length co114, v337, ve_t339, gb340) _ ⟨(HW.zV (Kd.V_mono HO302.out (fun _ hk => ⟨hk.1.1, ⟨hk.1.2, hk.2⟩⟩))), (HW.zV (Kd.V_mono HO305.out (fun _ hk => ⟨hk.1.1, ⟨hk.1.2, hk.2⟩⟩))), (HW.zV (Kd.V_mono HO309.out (fun _ hk => ⟨hk.1.1, ⟨hk.1.2, hk.2⟩⟩))), (HW.zV (Kd.V_mono HO330.out (fun _ hk => ⟨hk.1.1, ⟨hk.1.2, hk.2⟩⟩))), (HW.zV (Kd.V_mono HO333.out (fun _ hk => ⟨hk.1.1, ⟨hk.1.2, hk.2⟩⟩))), (HW.zV (Kd.V_mono HO338.out (fun _ hk => ⟨hk.1.1, ⟨hk.1.2, hk.2⟩⟩))), (HW.zV (Kd.V_mono HO_7.out (fun _ hk => ⟨hk.1.1, ⟨hk.1.2, hk.2⟩⟩))), (HW.zB BK294.out), (HW.zB BK340.out), GW340.out, GE340.out, NB294_340.out, NB340_294.out, HW.zb, hE_t339.out⟩)
              skip
              refine box_step ?hg (N := 13) ?hd (cs := #[.int .u8 0, .slice none 0 0]) (t := 67) ?hr ?_; (case hd => rfl); (case hg => rfl); (case hr => first | (go_simp; done) | (go_simp; rfl))
              intro gb340 hg w114 hbox hb
              have n0_ := Aside0.mk (Kd.V_below (Kd.V_elderB (HW.zV HO_7.out) gb340 (Nat.le_of_eq hg.symm)) hb); have n1_ := Aside0.mk (Kd.V_below (Kd.V_elderB (HW.zV HO302.out) gb340 (Nat.le_of_eq hg.symm)) hb); have n2_ := Aside0.mk (Kd.V_below (Kd.V_elderB (HW.zV HO305.out) gb340 (Nat.le_of_eq hg.symm)) hb); have n3_ := Aside0.mk (Kd.V_below (Kd.V_elderB (HW.zV HO309.out) gb340 (Nat.le_of_eq hg.symm)) hb); have n4_ := Aside0.mk (Kd.V_below (Kd.V_elderB (HW.zV HO330.out) gb340 (Nat.le_of_eq hg.symm)) hb); have n5_ := Aside0.mk (Kd.V_below (Kd.V_elderB (HW.zV HO333.out) gb340 (Nat.le_of_eq hg.symm)) hb); have n6_ := Aside0.mk (blk_below (HW.zB BK294.out) hb); have n7_ := Aside0.mk (below_step HW.zb hb); have n8_ := Aside0.mk (hbox)
              have n9_ := Aside0.mk ((by rw [hg]; exact (below_size HW.zb) : w.heap.size ≤ gb340))
              have n10_ := Aside0.mk ((by rw [hg]; exact (below_size HW.zb) : w.heap.size ≤ gb340))
              have n11_ := Aside0.mk ((by rw [hg]; exact Nat.ne_of_lt (blk_lt (g := gb294) (o := .cells #[.int .u8 x295000_1, .slice none 0 0] 67 (0, 0)) (HW.zB BK294.out)) : gb294 ≠ gb340))
              have n12_ := Aside0.mk ((by rw [hg]; exact Nat.ne_of_gt (blk_lt (g := gb294) (o := .cells #[.int .u8 x295000_1, .slice none 0 0] 67 (0, 0)) (HW.zB BK294.out)) : gb340 ≠ gb294))
              clear HO_7; clear HO302; clear HO305; clear HO309; clear HO330; clear HO333; clear BK294; clear HB; have HO_7 := n0_; have HO302 := n1_; have HO305 := n2_; have HO309 := n3_; have HO330 := n4_; have HO333 := n5_; have BK294 := n6_; have HB := n7_; have BK340 := n8_; have GW340 := n9_; have GE340 := n10_; have NB294_340 := n11_; have NB340_294 := n12_; clear n0_ n1_ n2_ n3_ n4_ n5_ n6_ n7_ n8_ n9_ n10_ n11_ n12_
              (try clear hg1)
              (try clear hg2)
              have hg1 := (HB.out.cell (World.block_lt_of_cell? w _ hgw1)).trans hgw1; have hg2 := (HB.out.cell (World.block_lt_of_cell? w _ hgw2)).trans hgw2; clear hb hbox hg; obtain ⟨Ao115, co115, eo115⟩ := Kd.V_slice HO333.out
              (first | subst eo115 | (injection eo115 with f1_ f2_ f3_; have f4_ := f1_.symm; have f5_ := f3_.symm; clear f1_ f2_ f3_; subst f4_; subst f5_))
              refine hK.out _ _ trivial (fun hHeld => ?_)
              clear hK K
              refine HW.nz (N := (some 13)) ?_
              refine one_ (i := 5) (N := some 99) #[tt,tt,tt,tt,tt,tt,ff,ff,ff,tt,ff,ff] rfl rfl (one_of HT_.out (by kernel_rfl)) (by decide) (fun K hK => ?_)
              refine goes_ Tryz.func35 (by kernel_rfl) rfl #[.slice Ao115 t331.length co115, .slice A110 (l1.drop 1).length (c1 - 1)] (by rfl) rfl rfl (by (try simp only [List.map_toArray, List.map_cons, List.map_nil]); first | done | (rw [show (l1.drop 1).length = (l1.length - 1) from List.length_drop] <;> rfl) | rfl | (simp only [List.length_drop, List.length_take]; rfl)) ?_
              with_reducible refine (ih k1 (by have := HK1.out; omega) (fun k_ => (((P0_ k_ ∨ w.heap.size ≤ k_) ∧ k_ ≠ gb294) ∧ k_ ≠ gb340)) _ _ t331 _ _ (l1.drop 1) t335 t336 t339 _ ?aLD ?side1 ?side2 ?side3 A76.out).mono ?_
              (case aLD => exact Er.LaidE.below HL_.out (by repeat (first | (with_reducible first | exact HB.out | apply below_alloc | apply pw_below_drewN | apply below_drew1 | refine below_set ?_ GE294.out | refine below_set ?_ GE325.out | refine below_set ?_ GE340.out) | exact HB.out)))
              (case side1 => exact HO333.out)
              (case side2 => repeat (first | exact (Kd.C_below HR334.out HB.out) | (with_reducible refine Kd.C_alloc ?_ _) | (with_reducible refine Kd.C_drewN ?_ _) | (with_reducible refine Kd.C_drew ?_)))
              (case side3 => exact HC334.out)
              rintro e w116 ⟨v337, ve_t339, rfl, hE_t339, ho0, hb⟩
              refine ⟨_, rfl, ?_⟩
              have n0_ := Aside0.mk (Kd.V_below (HW.zV HO_7.out) hb); have n1_ := Aside0.mk (Kd.V_below (HW.zV HO302.out) hb); have n2_ := Aside0.mk (Kd.V_below (HW.zV HO305.out) hb); have n3_ := Aside0.mk (Kd.V_below (HW.zV HO309.out) hb); have n4_ := Aside0.mk (Kd.V_below (HW.zV HO330.out) hb); have n5_ := Aside0.mk (Kd.V_below (HW.zV HO333.out) hb); have n6_ := Aside0.mk (Kd.V_lower (Kd.V_mono (ok' := fun k_ => (P0_ k_ ∨ w.heap.size ≤ k_) ∧ k_ ≠ gb294 ∧ k_ ≠ gb340) ho0 (fun k_ hk_ => ⟨Or.elim hk_ (fun hs_ => hs_.1.1) (fun hn_ => (.inr (Nat.le_trans (below_size HW.zb) hn_))), Or.elim hk_ (fun hs_ => hs_.1.2) (fun hn_ => (Kd.freshB (g := gb294) (o := .cells #[.int .u8 x295000_1, .slice none 0 0] 67 (0, 0)) (HW.zB BK294.out) k_ hn_)), Or.elim hk_ (fun hs_ => hs_.2) (fun hn_ => (Kd.freshB (g := gb340) (o := .cells #[.int .u8 0, .slice none 0 0] 67 (0, 0)) (HW.zB BK340.out) k_ hn_))⟩)) (below_size HW.zb)); have n7_ := Aside0.mk (blk_below (HW.zB BK294.out) hb); have n8_ := Aside0.mk (blk_below (HW.zB BK340.out) hb); have n9_ := Aside0.mk (below_step HW.zb hb); clear HO_7; clear HO302; clear HO305; clear HO309; clear HO330; clear HO333; clear BK294; clear BK340; clear HB; have HO_7 := n0_; have HO302 := n1_; have HO305 := n2_; have HO309 := n3_; have HO330 := n4_; have HO333 := n5_; have HO338 := n6_; have BK294 := n7_; have BK340 := n8_
              have HB := n9_; clear n0_ n1_ n2_ n3_ n4_ n5_ n6_ n7_ n8_ n9_
              (try clear hg1)
              (try clear hg2)
              have hg1 := (HB.out.cell (World.block_lt_of_cell? w _ hgw1)).trans hgw1; have hg2 := (HB.out.cell (World.block_lt_of_cell? w _ hgw2)).trans hgw2
              (try clear hb)
              (try clear hk)
              (try clear ho0)
              replace hE_t339 := Aside0.mk hE_t339
              refine hK.out _ _ trivial (fun hHeld => ?_)
              clear hK K
              refine HW.nz (N := (some 99)) ?_
              refine HW.pz (i := 6) (N := some 93) #[tt,tt,tt,tt,tt,tt,tt,ff,ff,tt,ff,ff] ?_ (hc := any_of HT_.out (by kernel_rfl))
              refine HW.pz (i := 7) (N := some 100) #[tt,tt,tt,tt,tt,tt,tt,tt,ff,tt,ff,ff] ?_ (hc := any_of HT_.out (by kernel_rfl))
              refine HW.pz (i := 8) (N := some 101) #[tt,tt,tt,tt,tt,tt,tt,tt,tt,tt,ff,ff] ?_ (hc := any_of HT_.out (by kernel_rfl))
              exact norm_ (by simp only [putAll, Act.put, List.setIfInBounds_toArray, List.set_cons_zero, List.set_cons_succ, errW_none]) (hCont (.slice Ao112 t328.length co112, .slice Ao115 t331.length co115, v337, ve_t339, gb340) _ ⟨(HW.zV (Kd.V_mono HO302.out (fun _ hk => ⟨hk.1.1, ⟨hk.1.2, hk.2⟩⟩))), (HW.zV (Kd.V_mono HO305.out (fun _ hk => ⟨hk.1.1, ⟨hk.1.2, hk.2⟩⟩))), (HW.zV (Kd.V_mono HO309.out (fun _ hk => ⟨hk.1.1, ⟨hk.1.2, hk.2⟩⟩))), (HW.zV (Kd.V_mono HO330.out (fun _ hk => ⟨hk.1.1, ⟨hk.1.2, hk.2⟩⟩))), (HW.zV (Kd.V_mono HO333.out (fun _ hk => ⟨hk.1.1, ⟨hk.1.2, hk.2⟩⟩))), (HW.zV HO338.out), (HW.zV (Kd.V_mono HO_7.out (fun _ hk => ⟨hk.1.1, ⟨hk.1.2, hk.2⟩⟩))), (HW.zB BK294.out), (HW.zB BK340.out), GW340.out, GE340.out, NB294_340.out, NB340_294.out, HW.zb, hE_t339.out⟩)
            skip
            refine box_step ?hg (N := 13) ?hd (cs := #[.int .u8 0, .slice none 0 0]) (t := 67) ?hr ?_; (case hd => rfl); (case hg => rfl); (case hr => first | (go_simp; done) | (go_simp; rfl))
            intro gb340 hg w112 hbox hb
            have n0_ := Aside0.mk (Kd.V_below (Kd.V_elderB (HW.zV HO_7.out) gb340 (Nat.le_of_eq hg.symm)) hb); have n1_ := Aside0.mk (Kd.V_below (Kd.V_elderB (HW.zV HO302.out) gb340 (Nat.le_of_eq hg.symm)) hb); have n2_ := Aside0.mk (Kd.V_below (Kd.V_elderB (HW.zV HO305.out) gb340 (Nat.le_of_eq hg.symm)) hb); have n3_ := Aside0.mk (Kd.V_below (Kd.V_elderB (HW.zV HO309.out) gb340 (Nat.le_of_eq hg.symm)) hb); have n4_ := Aside0.mk (Kd.V_below (Kd.V_elderB (HW.zV HO330.out) gb340 (Nat.le_of_eq hg.symm)) hb); have n5_ := Aside0.mk (blk_below (HW.zB BK294.out) hb); have n6_ := Aside0.mk (below_step HW.zb hb); have n7_ := Aside0.mk (hbox)
            have n8_ := Aside0.mk ((by rw [hg]; exact (below_size HW.zb) : w.heap.size ≤ gb340))
            have n9_ := Aside0.mk ((by rw [hg]; exact (below_size HW.zb) : w.heap.size ≤ gb340))
            have n10_ := Aside0.mk ((by rw [hg]; exact Nat.ne_of_lt (blk_lt (g := gb294) (o := .cells #[.int .u8 x295000_1, .slice none 0 0] 67 (0, 0)) (HW.zB BK294.out)) : gb294 ≠ gb340))
            have n11_ := Aside0.mk ((by rw [hg]; exact Nat.ne_of_gt (blk_lt (g := gb294) (o := .cells #[.int .u8 x295000_1, .slice none 0 0] 67 (0, 0)) (HW.zB BK294.out)) : gb340 ≠ gb294))
            clear HO_7; clear HO302; clear HO305; clear HO309; clear HO330; clear BK294; clear HB; have HO_7 := n0_; have HO302 := n1_; have HO305 := n2_; have HO309 := n3_; have HO330 := n4_; have BK294 := n5_; have HB := n6_; have BK340 := n7_; have GW340 := n8_; have GE340 := n9_; have NB294_340 := n10_; have NB340_294 := n11_; clear n0_ n1_ n2_ n3_ n4_ n5_ n6_ n7_ n8_ n9_ n10_ n11_
            (try clear hg1)
            (try clear hg2)
            have hg1 := (HB.out.cell (World.block_lt_of_cell? w _ hgw1)).trans hgw1; have hg2 := (HB.out.cell (World.block_lt_of_cell? w _ hgw2)).trans hgw2; clear hb hbox hg; obtain ⟨Ao113, co113, eo113⟩ := Kd.V_slice HO330.out
            (first | subst eo113 | (injection eo113 with f1_ f2_ f3_; have f4_ := f1_.symm; have f5_ := f3_.symm; clear f1_ f2_ f3_; subst f4_; subst f5_))
            refine hK.out _ _ trivial (fun hHeld => ?_)
            clear hK K
            refine HW.nz (N := (some 13)) ?_
            refine one_ (i := 2) (N := some 96) #[tt,tt,tt,tt,tt,ff,ff,ff,ff,tt,ff,ff] rfl rfl (one_of HT_.out (by kernel_rfl)) (by decide) (fun K hK => ?_)
            refine goes_ Tryz.func79 (by kernel_rfl) rfl #[.agg #[.int .u8 t327, .slice Ao113 t328.length co113]] (by rfl) rfl rfl HW.mt ?_
            with_reducible refine (bsoncore_Value_Array.calls t327 (fun k_ => (((P0_ k_ ∨ w.heap.size ≤ k_) ∧ k_ ≠ gb294) ∧ k_ ≠ gb340)) _ _ t328 t331 _ ?side1 A74.out).mono ?_
            (case side1 => exact HO330.out)
            rintro e w114 ⟨v332, rfl, ho0, hb⟩
            refine ⟨_, rfl, ?_⟩
            replace HO_7 := Aside0.mk (Kd.V_below (HW.zV HO_7.out) hb); replace HO302 := Aside0.mk (Kd.V_below (HW.zV HO302.out) hb); replace HO305 := Aside0.mk (Kd.V_below (HW.zV HO305.out) hb); replace HO309 := Aside0.mk (Kd.V_below (HW.zV HO309.out) hb); replace HO330 := Aside0.mk (Kd.V_below (HW.zV HO330.out) hb); have HO333 := Aside0.mk (Kd.V_lower (Kd.V_mono (ok' := fun k_ => (P0_ k_ ∨ w.heap.size ≤ k_) ∧ k_ ≠ gb294 ∧ k_ ≠ gb340) ho0 (fun k_ hk_ => ⟨Or.elim hk_ (fun hs_ => hs_.1.1) (fun hn_ => (.inr (Nat.le_trans (below_size HW.zb) hn_))), Or.elim hk_ (fun hs_ => hs_.1.2) (fun hn_ => (Kd.freshB (g := gb294) (o := .cells #[.int .u8 x295000_1, .slice none 0 0] 67 (0, 0)) (HW.zB BK294.out) k_ hn_)), Or.elim hk_ (fun hs_ => hs_.2) (fun hn_ => (Kd.freshB (g := gb340) (o := .cells #[.int .u8 0, .slice none 0 0] 67 (0, 0)) (HW.zB BK340.out) k_ hn_))⟩)) (below_size HW.zb)); replace BK294 := Aside0.mk (blk_below (HW.zB BK294.out) hb); replace BK340 := Aside0.mk (blk_below (HW.zB BK340.out) hb); replace HB := Aside0.mk (below_step HW.zb hb)
            (try clear hg1)
            (try clear hg2)
            have hg1 := (HB.out.cell (World.block_lt_of_cell? w _ hgw1)).trans hgw1; have hg2 := (HB.out.cell (World.block_lt_of_cell? w _ hgw2)).trans hgw2
            (try clear hb)
            (try clear hk)
            (try clear ho0)
            obtain ⟨Ao115, co115, eo115⟩ := Kd.V_slice HO333.out
            (first | subst eo115 | (injection eo115 with f1_ f2_ f3_; have f4_ := f1_.symm; have f5_ := f3_.symm; clear f1_ f2_ f3_; subst f4_; subst f5_))
            refine hK.out _ _ trivial (fun hHeld => ?_)
            clear hK K
            refine HW.nz (N := (some 96)) ?_
            refine one_ (i := 5) (N := some 99) #[tt,tt,tt,tt,tt,tt,ff,ff,ff,tt,ff,ff] rfl rfl (one_of HT_.out (by kernel_rfl)) (by decide) (fun K hK => ?_)
            refine goes_ Tryz.func35 (by kernel_rfl) rfl #[.slice Ao115 t331.length co115, .slice A110 (l1.drop 1).length (c1 - 1)] (by rfl) rfl rfl (by (try simp only [List.map_toArray, List.map_cons, List.map_nil]); first | done | (rw [show (l1.drop 1).length = (l1.length - 1) from List.length_drop] <;> rfl) | rfl | (simp only [List.length_drop, List.length_take]; rfl)) ?_
            with_reducible refine (ih k1 (by have := HK1.out; omega) (fun k_ => ((P0_ k_ ∨ w.heap.size ≤ k_) ∧ (k_ ≠ gb294 ∧ k_ ≠ gb340))) _ _ t331 _ _ (l1.drop 1) t335 t336 t339 _ ?aLD ?side1 ?side2 ?side3 A76.out).mono ?_
            (case aLD => exact Er.LaidE.below HL_.out (by repeat (first | (with_reducible first | exact HB.out | apply below_alloc | apply pw_below_drewN | apply below_drew1 | refine below_set ?_ GE294.out | refine below_set ?_ GE325.out | refine below_set ?_ GE340.out) | exact HB.out)))
            (case side1 => exact HO333.out)
            (case side2 => repeat (first | exact (Kd.C_below HR334.out HB.out) | (with_reducible refine Kd.C_alloc ?_ _) | (with_reducible refine Kd.C_drewN ?_ _) | (with_reducible refine Kd.C_drew ?_)))
            (case side3 => exact HC334.out)
            rintro e w116 ⟨v337, ve_t339, rfl, hE_t339, ho0, hb⟩
            refine ⟨_, rfl, ?_⟩
            have n0_ := Aside0.mk (Kd.V_below (HW.zV HO_7.out) hb); have n1_ := Aside0.mk (Kd.V_below (HW.zV HO302.out) hb); have n2_ := Aside0.mk (Kd.V_below (HW.zV HO305.out) hb); have n3_ := Aside0.mk (Kd.V_below (HW.zV HO309.out) hb); have n4_ := Aside0.mk (Kd.V_below (HW.zV HO330.out) hb); have n5_ := Aside0.mk (Kd.V_below (HW.zV HO333.out) hb); have n6_ := Aside0.mk (Kd.V_lower (Kd.V_mono (ok' := fun k_ => (P0_ k_ ∨ w.heap.size ≤ k_) ∧ k_ ≠ gb294 ∧ k_ ≠ gb340) ho0 (fun k_ hk_ => ⟨Or.elim hk_ (fun hs_ => hs_.1) (fun hn_ => (.inr (Nat.le_trans (below_size HW.zb) hn_))), Or.elim hk_ (fun hs_ => hs_.2.1) (fun hn_ => (Kd.freshB (g := gb294) (o := .cells #[.int .u8 x295000_1, .slice none 0 0] 67 (0, 0)) (HW.zB BK294.out) k_ hn_)), Or.elim hk_ (fun hs_ => hs_.2.2) (fun hn_ => (Kd.freshB (g := gb340) (o := .cells #[.int .u8 0, .slice none 0 0] 67 (0, 0)) (HW.zB BK340.out) k_ hn_))⟩)) (below_size HW.zb)); have n7_ := Aside0.mk (blk_below (HW.zB BK294.out) hb); have n8_ := Aside0.mk (blk_below (HW.zB BK340.out) hb); have n9_ := Aside0.mk (below_step HW.zb hb); clear HO_7; clear HO302; clear HO305; clear HO309; clear HO330; clear HO333; clear BK294; clear BK340; clear HB; have HO_7 := n0_; have HO302 := n1_; have HO305 := n2_; have HO309 := n3_; have HO330 := n4_; have HO333 := n5_; have HO338 := n6_; have BK294 := n7_; have BK340 := n8_
            have HB := n9_; clear n0_ n1_ n2_ n3_ n4_ n5_ n6_ n7_ n8_ n9_
            (try clear hg1)
            (try clear hg2)
            have hg1 := (HB.out.cell (World.block_lt_of_cell? w _ hgw1)).trans hgw1; have hg2 := (HB.out.cell (World.block_lt_of_cell? w _ hgw2)).trans hgw2
            (try clear hb)
            (try clear hk)
            (try clear ho0)
            replace hE_t339 := Aside0.mk hE_t339
            refine hK.out _ _ trivial (fun hHeld => ?_)
            clear hK K
            refine HW.nz (N := (some 99)) ?_
            refine HW.pz (i := 6) (N := some 93) #[tt,tt,tt,tt,tt,tt,tt,ff,ff,tt,ff,ff] ?_ (hc := any_of HT_.out (by kernel_rfl))
            refine HW.pz (i := 7) (N := some 100) #[tt,tt,tt,tt,tt,tt,tt,tt,ff,tt,ff,ff] ?_ (hc := any_of HT_.out (by kernel_rfl))
            refine HW.pz (i := 8) (N := some 101) #[tt,tt,tt,tt,tt,tt,tt,tt,tt,tt,ff,ff] ?_ (hc := any_of HT_.out (by kernel_rfl))
            exact norm_ (by simp only [putAll, Act.put, List.setIfInBounds_toArray, List.set_cons_zero, List.set_cons_succ, errW_none]) (hCont (.slice Ao113 t328.length co113, .slice Ao115 t331.length co115, v337, ve_t339, gb340) _ ⟨(HW.zV (Kd.V_mono HO302.out (fun _ hk => ⟨hk.1.1, ⟨hk.1.2, hk.2⟩⟩))), (HW.zV (Kd.V_mono HO305.out (fun _ hk => ⟨hk.1.1, ⟨hk.1.2, hk.2⟩⟩))), (HW.zV (Kd.V_mono HO309.out (fun _ hk => ⟨hk.1.1, ⟨hk.1.2, hk.2⟩⟩))), (HW.zV (Kd.V_mono HO330.out (fun _ hk => ⟨hk.1.1, ⟨hk.1.2, hk.2⟩⟩))), (HW.zV HO333.out), (HW.zV HO338.out), (HW.zV (Kd.V_mono HO_7.out (fun _ hk => ⟨hk.1.1, ⟨hk.1.2, hk.2⟩⟩))), (HW.zB BK294.out), (HW.zB BK340.out), GW340.out, GE340.out, NB294_340.out, NB340_294.out, HW.zb, hE_t339.out⟩)
          skip
          refine box_step ?hg (N := 13) ?hd (cs := #[.int .u8 0, .slice none 0 0]) (t := 67) ?hr ?_; (case hd => rfl); (case hg => rfl); (case hr => first | (go_simp; done) | (go_simp; rfl))
          intro gb340 hg w111 hbox hb
          have n0_ := Aside0.mk (Kd.V_below (Kd.V_elderB (HW.zV HO_7.out) gb340 (Nat.le_of_eq hg.symm)) hb); have n1_ := Aside0.mk (Kd.V_below (Kd.V_elderB (HW.zV HO302.out) gb340 (Nat.le_of_eq hg.symm)) hb); have n2_ := Aside0.mk (Kd.V_below (Kd.V_elderB (HW.zV HO305.out) gb340 (Nat.le_of_eq hg.symm)) hb); have n3_ := Aside0.mk (Kd.V_below (Kd.V_elderB (HW.zV HO309.out) gb340 (Nat.le_of_eq hg.symm)) hb); have n4_ := Aside0.mk (blk_below (HW.zB BK294.out) hb); have n5_ := Aside0.mk (below_step HW.zb hb); have n6_ := Aside0.mk (hbox)
          have n7_ := Aside0.mk ((by rw [hg]; exact (below_size HW.zb) : w.heap.size ≤ gb340))
          have n8_ := Aside0.mk ((by rw [hg]; exact (below_size HW.zb) : w.heap.size ≤ gb340))
          have n9_ := Aside0.mk ((by rw [hg]; exact Nat.ne_of_lt (blk_lt (g := gb294) (o := .cells #[.int .u8 x295000_1, .slice none 0 0] 67 (0, 0)) (HW.zB BK294.out)) : gb294 ≠ gb340))
          have n10_ := Aside0.mk ((by rw [hg]; exact Nat.ne_of_gt (blk_lt (g := gb294) (o := .cells #[.int .u8 x295000_1, .slice none 0 0] 67 (0, 0)) (HW.zB BK294.out)) : gb340 ≠ gb294))
          clear HO_7; clear HO302; clear HO305; clear HO309; clear BK294; clear HB; have HO_7 := n0_; have HO302 := n1_; have HO305 := n2_; have HO309 := n3_; have BK294 := n4_; have HB := n5_; have BK340 := n6_; have GW340 := n7_; have GE340 := n8_; have NB294_340 := n9_; have NB340_294 := n10_; clear n0_ n1_ n2_ n3_ n4_ n5_ n6_ n7_ n8_ n9_ n10_
          (try clear hg1)
          (try clear hg2)
          have hg1 := (HB.out.cell (World.block_lt_of_cell? w _ hgw1)).trans hgw1; have hg2 := (HB.out.cell (World.block_lt_of_cell? w _ hgw2)).trans hgw2; clear hb hbox hg
          refine hK.out _ _ trivial (fun hHeld => ?_)
          clear hK K
          refine HW.nz (N := (some 13)) ?_
          refine one_ (i := 1) (N := some 95) #[tt,tt,ff,tt,tt,ff,ff,ff,ff,tt,ff,ff] rfl rfl (one_of HT_.out (by kernel_rfl)) (by decide) (fun K hK => ?_)
          refine goes_ Tryz.func44 (by kernel_rfl) rfl #[.slice (some ad311) t300.length co105] (by rfl) rfl rfl HW.mt ?_
          with_reducible refine (bsoncore_Element_Value.calls k1 (fun k_ => (((P0_ k_ ∨ w.heap.size ≤ k_) ∧ k_ ≠ gb294) ∧ k_ ≠ gb340)) _ _ t300 t327 t328 _ ?side1 A73.out).mono ?_
          (case side1 => exact HO302.out)
          rintro e w112 ⟨v329, rfl, ho0, hb⟩
          refine ⟨_, rfl, ?_⟩
          replace HO_7 := Aside0.mk (Kd.V_below (HW.zV HO_7.out) hb); replace HO302 := Aside0.mk (Kd.V_below (HW.zV HO302.out) hb); replace HO305 := Aside0.mk (Kd.V_below (HW.zV HO305.out) hb); replace HO309 := Aside0.mk (Kd.V_below (HW.zV HO309.out) hb); have HO330 := Aside0.mk (Kd.V_lower (Kd.V_mono (ok' := fun k_ => (P0_ k_ ∨ w.heap.size ≤ k_) ∧ k_ ≠ gb294 ∧ k_ ≠ gb340) ho0 (fun k_ hk_ => ⟨Or.elim hk_ (fun hs_ => hs_.1.1) (fun hn_ => (.inr (Nat.le_trans (below_size HW.zb) hn_))), Or.elim hk_ (fun hs_ => hs_.1.2) (fun hn_ => (Kd.freshB (g := gb294) (o := .cells #[.int .u8 x295000_1, .slice none 0 0] 67 (0, 0)) (HW.zB BK294.out) k_ hn_)), Or.elim hk_ (fun hs_ => hs_.2) (fun hn_ => (Kd.freshB (g := gb340) (o := .cells #[.int .u8 0, .slice none 0 0] 67 (0, 0)) (HW.zB BK340.out) k_ hn_))⟩)) (below_size HW.zb)); replace BK294 := Aside0.mk (blk_below (HW.zB BK294.out) hb); replace BK340 := Aside0.mk (blk_below (HW.zB BK340.out) hb); replace HB := Aside0.mk (below_step HW.zb hb)
          (try clear hg1)
          (try clear hg2)
          have hg1 := (HB.out.cell (World.block_lt_of_cell? w _ hgw1)).trans hgw1; have hg2 := (HB.out.cell (World.block_lt_of_cell? w _ hgw2)).trans hgw2
          (try clear hb)
          (try clear hk)
          (try clear ho0)
          obtain ⟨Ao113, co113, eo113⟩ := Kd.V_slice HO330.out
          (first | subst eo113 | (injection eo113 with f1_ f2_ f3_; have f4_ := f1_.symm; have f5_ := f3_.symm; clear f1_ f2_ f3_; subst f4_; subst f5_))
          refine hK.out _ _ trivial (fun hHeld => ?_)
          clear hK K
          refine HW.nz (N := (some 95)) ?_
          refine one_ (i := 2) (N := some 96) #[tt,tt,tt,tt,tt,ff,ff,ff,ff,tt,ff,ff] rfl rfl (one_of HT_.out (by kernel_rfl)) (by decide) (fun K hK => ?_)
          refine goes_ Tryz.func79 (by kernel_rfl) rfl #[.agg #[.int .u8 t327, .slice Ao113 t328.length co113]] (by rfl) rfl rfl HW.mt ?_
          with_reducible refine (bsoncore_Value_Array.calls t327 (fun k_ => ((P0_ k_ ∨ w.heap.size ≤ k_) ∧ (k_ ≠ gb294 ∧ k_ ≠ gb340))) _ _ t328 t331 _ ?side1 A74.out).mono ?_
          (case side1 => exact HO330.out)
          rintro e w114 ⟨v332, rfl, ho0, hb⟩
          refine ⟨_, rfl, ?_⟩
          replace HO_7 := Aside0.mk (Kd.V_below (HW.zV HO_7.out) hb); replace HO302 := Aside0.mk (Kd.V_below (HW.zV HO302.out) hb); replace HO305 := Aside0.mk (Kd.V_below (HW.zV HO305.out) hb); replace HO309 := Aside0.mk (Kd.V_below (HW.zV HO309.out) hb); replace HO330 := Aside0.mk (Kd.V_below (HW.zV HO330.out) hb); have HO333 := Aside0.mk (Kd.V_lower (Kd.V_mono (ok' := fun k_ => (P0_ k_ ∨ w.heap.size ≤ k_) ∧ k_ ≠ gb294 ∧ k_ ≠ gb340) ho0 (fun k_ hk_ => ⟨Or.elim hk_ (fun hs_ => hs_.1) (fun hn_ => (.inr (Nat.le_trans (below_size HW.zb) hn_))), Or.elim hk_ (fun hs_ => hs_.2.1) (fun hn_ => (Kd.freshB (g := gb294) (o := .cells #[.int .u8 x295000_1, .slice none 0 0] 67 (0, 0)) (HW.zB BK294.out) k_ hn_)), Or.elim hk_ (fun hs_ => hs_.2.2) (fun hn_ => (Kd.freshB (g := gb340) (o := .cells #[.int .u8 0, .slice none 0 0] 67 (0, 0)) (HW.zB BK340.out) k_ hn_))⟩)) (below_size HW.zb)); replace BK294 := Aside0.mk (blk_below (HW.zB BK294.out) hb); replace BK340 := Aside0.mk (blk_below (HW.zB BK340.out) hb); replace HB := Aside0.mk (below_step HW.zb hb)
          (try clear hg1)
          (try clear hg2)
          have hg1 := (HB.out.cell (World.block_lt_of_cell? w _ hgw1)).trans hgw1; have hg2 := (HB.out.cell (World.block_lt_of_cell? w _ hgw2)).trans hgw2
          (try clear hb)
          (try clear hk)
          (try clear ho0)
          obtain ⟨Ao115, co115, eo115⟩ := Kd.V_slice HO333.out
          (first | subst eo115 | (injection eo115 with f1_ f2_ f3_; have f4_ := f1_.symm; have f5_ := f3_.symm; clear f1_ f2_ f3_; subst f4_; subst f5_))
          refine hK.out _ _ trivial (fun hHeld => ?_)
          clear hK K
          refine HW.nz (N := (some 96)) ?_
          refine one_ (i := 5) (N := some 99) #[tt,tt,tt,tt,tt,tt,ff,ff,ff,tt,ff,ff] rfl rfl (one_of HT_.out (by kernel_rfl)) (by decide) (fun K hK => ?_)
          refine goes_ Tryz.func35 (by kernel_rfl) rfl #[.slice Ao115 t331.length co115, .slice A110 (l1.drop 1).length (c1 - 1)] (by rfl) rfl rfl (by (try simp only [List.map_toArray, List.map_cons, List.map_nil]); first | done | (rw [show (l1.drop 1).length = (l1.length - 1) from List.length_drop] <;> rfl) | rfl | (simp only [List.length_drop, List.length_take]; rfl)) ?_
          with_reducible refine (ih k1 (by have := HK1.out; omega) (fun k_ => ((P0_ k_ ∨ w.heap.size ≤ k_) ∧ (k_ ≠ gb294 ∧ k_ ≠ gb340))) _ _ t331 _ _ (l1.drop 1) t335 t336 t339 _ ?aLD ?side1 ?side2 ?side3 A76.out).mono ?_
          (case aLD => exact Er.LaidE.below HL_.out (by repeat (first | (with_reducible first | exact HB.out | apply below_alloc | apply pw_below_drewN | apply below_drew1 | refine below_set ?_ GE294.out | refine below_set ?_ GE325.out | refine below_set ?_ GE340.out) | exact HB.out)))
          (case side1 => exact HO333.out)
          (case side2 => repeat (first | exact (Kd.C_below HR334.out HB.out) | (with_reducible refine Kd.C_alloc ?_ _) | (with_reducible refine Kd.C_drewN ?_ _) | (with_reducible refine Kd.C_drew ?_)))
          (case side3 => exact HC334.out)
          rintro e w116 ⟨v337, ve_t339, rfl, hE_t339, ho0, hb⟩
          refine ⟨_, rfl, ?_⟩
          have n0_ := Aside0.mk (Kd.V_below (HW.zV HO_7.out) hb); have n1_ := Aside0.mk (Kd.V_below (HW.zV HO302.out) hb); have n2_ := Aside0.mk (Kd.V_below (HW.zV HO305.out) hb); have n3_ := Aside0.mk (Kd.V_below (HW.zV HO309.out) hb); have n4_ := Aside0.mk (Kd.V_below (HW.zV HO330.out) hb); have n5_ := Aside0.mk (Kd.V_below (HW.zV HO333.out) hb); have n6_ := Aside0.mk (Kd.V_lower (Kd.V_mono (ok' := fun k_ => (P0_ k_ ∨ w.heap.size ≤ k_) ∧ k_ ≠ gb294 ∧ k_ ≠ gb340) ho0 (fun k_ hk_ => ⟨Or.elim hk_ (fun hs_ => hs_.1) (fun hn_ => (.inr (Nat.le_trans (below_size HW.zb) hn_))), Or.elim hk_ (fun hs_ => hs_.2.1) (fun hn_ => (Kd.freshB (g := gb294) (o := .cells #[.int .u8 x295000_1, .slice none 0 0] 67 (0, 0)) (HW.zB BK294.out) k_ hn_)), Or.elim hk_ (fun hs_ => hs_.2.2) (fun hn_ => (Kd.freshB (g := gb340) (o := .cells #[.int .u8 0, .slice none 0 0] 67 (0, 0)) (HW.zB BK340.out) k_ hn_))⟩)) (below_size HW.zb)); have n7_ := Aside0.mk (blk_below (HW.zB BK294.out) hb); have n8_ := Aside0.mk (blk_below (HW.zB BK340.out) hb); have n9_ := Aside0.mk (below_step HW.zb hb); clear HO_7; clear HO302; clear HO305; clear HO309; clear HO330; clear HO333; clear BK294; clear BK340; clear HB; have HO_7 := n0_; have HO302 := n1_; have HO305 := n2_; have HO309 := n3_; have HO330 := n4_; have HO333 := n5_; have HO338 := n6_; have BK294 := n7_; have BK340 := n8_
          have HB := n9_; clear n0_ n1_ n2_ n3_ n4_ n5_ n6_ n7_ n8_ n9_
          (try clear hg1)
          (try clear hg2)
          have hg1 := (HB.out.cell (World.block_lt_of_cell? w _ hgw1)).trans hgw1; have hg2 := (HB.out.cell (World.block_lt_of_cell? w _ hgw2)).trans hgw2
          (try clear hb)
          (try clear hk)
          (try clear ho0)
          replace hE_t339 := Aside0.mk hE_t339
          refine hK.out _ _ trivial (fun hHeld => ?_)
          clear hK K
          refine HW.nz (N := (some 99)) ?_
          refine HW.pz (i := 6) (N := some 93) #[tt,tt,tt,tt,tt,tt,tt,ff,ff,tt,ff,ff] ?_ (hc := any_of HT_.out (by kernel_rfl))
          refine HW.pz (i := 7) (N := some 100) #[tt,tt,tt,tt,tt,tt,tt,tt,ff,tt,ff,ff] ?_ (hc := any_of HT_.out (by kernel_rfl))
          refine HW.pz (i := 8) (N := some 101) #[tt,tt,tt,tt,tt,tt,tt,tt,tt,tt,ff,ff] ?_ (hc := any_of HT_.out (by kernel_rfl))
          exact norm_ (by simp only [putAll, Act.put, List.setIfInBounds_toArray, List.set_cons_zero, List.set_cons_succ, errW_none]) (hCont (.slice Ao113 t328.length co113, .slice Ao115 t331.length co115, v337, ve_t339, gb340) _ ⟨(HW.zV (Kd.V_mono HO302.out (fun _ hk => ⟨hk.1.1, ⟨hk.1.2, hk.2⟩⟩))), (HW.zV (Kd.V_mono HO305.out (fun _ hk => ⟨hk.1.1, ⟨hk.1.2, hk.2⟩⟩))), (HW.zV (Kd.V_mono HO309.out (fun _ hk => ⟨hk.1.1, ⟨hk.1.2, hk.2⟩⟩))), (HW.zV HO330.out), (HW.zV HO333.out), (HW.zV HO338.out), (HW.zV (Kd.V_mono HO_7.out (fun _ hk => ⟨hk.1.1, ⟨hk.1.2, hk.2⟩⟩))), (HW.zB BK294.out), (HW.zB BK340.out), GW340.out, GE340.out, NB294_340.out, NB340_294.out, HW.zb, hE_t339.out⟩)
        rintro ⟨v329, v332, v337, ve_t339, gb340⟩ w117 ⟨h0_, h1_, h2_, h3_, h4_, h5_, h6_, h7_, h8_, h9_, h10_, h11_, h12_, h13_, h14_⟩
        have n0_ : Aside0 (Kd.V (Kd.int .u8) 5 w117 w.heap.size (fun k_ => (P0_ k_ ∨ w.heap.size ≤ k_) ∧ k_ ≠ gb294 ∧ k_ ≠ gb340) (.slice (some ad311) t300.length co105) t300) := ⟨h0_⟩; have n1_ : Aside0 (Kd.V (Kd.int .u8) 5 w117 w.heap.size (fun k_ => (P0_ k_ ∨ w.heap.size ≤ k_) ∧ k_ ≠ gb294 ∧ k_ ≠ gb340) v304 t303) := ⟨h1_⟩; have n2_ : Aside0 (Kd.V (Kd.int .u8) 5 w117 w.heap.size (fun k_ => (P0_ k_ ∨ w.heap.size ≤ k_) ∧ k_ ≠ gb294 ∧ k_ ≠ gb340) v308 t307) := ⟨h2_⟩; have n3_ : Aside0 (Kd.V (Kd.int .u8) 5 w117 w.heap.size (fun k_ => (P0_ k_ ∨ w.heap.size ≤ k_) ∧ k_ ≠ gb294 ∧ k_ ≠ gb340) v329 t328) := ⟨h3_⟩; have n4_ : Aside0 (Kd.V (Kd.int .u8) 5 w117 w.heap.size (fun k_ => (P0_ k_ ∨ w.heap.size ≤ k_) ∧ k_ ≠ gb294 ∧ k_ ≠ gb340) v332 t331) := ⟨h4_⟩; have n5_ : Aside0 (Kd.V (Kd.int .u8) 5 w117 w.heap.size (fun k_ => (P0_ k_ ∨ w.heap.size ≤ k_) ∧ k_ ≠ gb294 ∧ k_ ≠ gb340) v337 t336) := ⟨h5_⟩; have n6_ : Aside0 (Kd.V (Kd.int .u8) 5 w117 w.heap.size (fun k_ => (P0_ k_ ∨ w.heap.size ≤ k_) ∧ k_ ≠ gb294 ∧ k_ ≠ gb340) (.slice Ao103 x7_1.length co103) x7_1) := ⟨h6_⟩; have n7_ : Aside0 (w117.heap[gb294]? = some (.cells #[.int .u8 x295000_1, .slice none 0 0] 67 (0, 0))) := ⟨h7_⟩; have n8_ : Aside0 (w117.heap[gb340]? = some (.cells #[.int .u8 0, .slice none 0 0] 67 (0, 0))) := ⟨h8_⟩; have n9_ : Aside0 (w.heap.size ≤ gb340) := ⟨h9_⟩; have n10_ : Aside0 (w.heap.size ≤ gb340) := ⟨h10_⟩; have n11_ : Aside0 (gb294 ≠ gb340) := ⟨h11_⟩; have n12_ : Aside0 (gb340 ≠ gb294) := ⟨h12_⟩
        have n13_ : Aside0 (Below w.heap.size w w117) := ⟨h13_⟩; have n14_ : Aside0 (Er.ErrR ρ ve_t339 t339) := ⟨h14_⟩; clear HO_7; clear HO302; clear HO305; clear HO309; clear BK294; clear HB; clear h0_ h1_ h2_ h3_ h4_ h5_ h6_ h7_ h8_ h9_ h10_ h11_ h12_ h13_ h14_; have HO302 := n0_; have HO305 := n1_; have HO309 := n2_; have HO330 := n3_; have HO333 := n4_; have HO338 := n5_; have HO_7 := n6_; have BK294 := n7_; have BK340 := n8_; have GW340 := n9_; have GE340 := n10_; have NB294_340 := n11_; have NB340_294 := n12_; have HB := n13_; have hE_t339 := n14_; clear n0_ n1_ n2_ n3_ n4_ n5_ n6_ n7_ n8_ n9_ n10_ n11_ n12_ n13_ n14_
        (try clear hg1)
        (try clear hg2)
        have hg1 := (HB.out.cell (World.block_lt_of_cell? w _ hgw1)).trans hgw1; have hg2 := (HB.out.cell (World.block_lt_of_cell? w _ hgw2)).trans hgw2; have hHeld := trivial; obtain ⟨Ao119, co119, eo119⟩ := Kd.V_slice HO338.out
        (first | subst eo119 | (injection eo119 with f1_ f2_ f3_; have f4_ := f1_.symm; have f5_ := f3_.symm; clear f1_ f2_ f3_; subst f4_; subst f5_))
        by_cases cE77 : t339.isNone = true
        · obtain rfl : t339 = none := Option.isNone_iff_eq_none.mp cE77
          clear cE77
          have H1 : (some (t335, t336, none)) = some (r1, r2, r3) := by rw [if_pos (show (none : Option (Int × ByteArray)).isNone = true by rfl)] at H; exact H
          clear H; have H := H1; clear H1
          simp only [Option.some.injEq, Prod.mk.injEq] at H
          obtain ⟨rfl, rfl, rfl⟩ := H
          obtain rfl := Er.ErrR.nil_ hE_t339.out
          refine norm_ (a' := ?_) ?_ ?_
          rotate_left
          · simp only [putAll, Act.put, List.setIfInBounds_toArray, List.set_cons_zero, List.set_cons_succ, errW_none]
            rfl
          refine one_ (i := 10) (N := none) #[tt,tt,tt,tt,tt,tt,tt,tt,tt,tt,tt,ff] rfl rfl (one_of HT_.out (by kernel_rfl)) (by decide) (fun K hK => ?_)
          have hs95 : w117.cell? ⟨gb340, 0, none⟩ = some (.int .u8 0) := (blk_cell BK340.out 0).trans rfl; have hfs95 := blk_frozen BK340.out 0; have hns95_0 := NB294_340.out; have hms95_0 := NB340_294.out; have hs97 : w117.cell? ⟨gb340, 1, none⟩ = some (.slice none 0 0) := (blk_cell BK340.out 1).trans rfl; have hfs97 := blk_frozen BK340.out 1; have hns97_0 := NB294_340.out; have hms97_0 := NB340_294.out
          refine skip_ (w1 := ?_) (by rfl) rfl ?_ ?_
          rotate_left
          · go_simp
            rfl
          refine hK.out _ _ trivial (fun hHeld => ?_)
          clear hK K
          refine HW.pz (i := 11) (N := some 14) #[tt,tt,tt,tt,tt,tt,tt,tt,tt,tt,tt,tt] ?_ (hc := any_of HT_.out (by kernel_rfl))
          refine done_ (done_of HT_.out (by kernel_rfl)) ?_
          have hnb98 := NB340_294.out; have hnc98 := NB294_340.out; obtain ⟨hcz99_0, hcz99_1, hfz100_0, hfz100_1⟩ := HW.k2f BK340.out; obtain ⟨hcz101_0, hcz101_1, hfz102_0, hfz102_1⟩ := HW.k2f BK294.out
          try go_wp2
          refine bodyPost_ret (results_ct rfl _ _ gb294 67 #[.int .u8 t335, .slice Ao119 t336.length co119] (0, 0) _ rfl (by (with_reducible repeat (first | refine blk_drewN ?_ _ | refine blk_drew ?_ | refine blk_alloc ?_ _)); refine blk_put (cs := #[.int .u8 t335, .slice none 0 0]) ?_ 1 _ rfl; (with_reducible repeat (first | refine blk_drewN ?_ _ | refine blk_drew ?_ | refine blk_alloc ?_ _)); refine blk_put (cs := #[.int .u8 x295000_1, .slice none 0 0]) ?_ 0 _ rfl; (with_reducible repeat (first | refine blk_drewN ?_ _ | refine blk_drew ?_ | refine blk_alloc ?_ _)); refine blk_far ?_ NB294_340.out _; (with_reducible repeat (first | refine blk_drewN ?_ _ | refine blk_drew ?_ | refine blk_alloc ?_ _)); refine blk_far ?_ NB294_340.out _; exact HW.zB BK294.out) Tryz.underlying67 rfl (by kernel_rfl)) rfl ?_
          exact ⟨_, _, rfl, (by first | exact Er.ErrR.nil | (refine Aside0.out ?_; first | with_reducible assumption | assumption) | exact Er.ErrR.val _ | exact Er.ErrR.mal _ | exact Er.ErrR.dep _ _ | (refine Er.ErrR.few _ _ ?_ ?_ <;> first | exact ⟨_, _, _, rfl⟩ | (refine Er.isl_V (Aside0.out ?_); with_reducible assumption)) | (refine Er.ErrR.sent _ _ ?_ ?_ <;> decide)), by (with_reducible repeat (first | apply Kd.V_alloc | apply Kd.V_drewN | apply Kd.V_drew)); exact Kd.V_mono (Kd.V_far (p := ⟨gb294, 1, none⟩) (Kd.V_far (p := ⟨gb294, 0, none⟩) (Kd.V_far (p := ⟨gb340, 1, none⟩) (Kd.V_far (p := ⟨gb340, 0, none⟩) (Kd.V_mono (Kd.V_mono HO338.out (fun k_ hk => (⟨hk, hk.2.2⟩ : _ ∧ k_ ≠ gb340))) (fun k_ hk => (⟨hk, hk.1.2.1⟩ : _ ∧ k_ ≠ gb294))) (fun _ hk => hk.1.2) (.int .u8 t335)) (fun _ hk => hk.1.2) (.slice Ao119 t336.length co119)) (fun _ hk => hk.2) (.int .u8 t335)) (fun _ hk => hk.2) (.slice Ao119 t336.length co119)) (fun _ hk => hk.1.1.1), HW.zb⟩
        rw [if_neg cE77] at H; replace cE77 := Aside0.mk cE77
        simp only [Option.some.injEq, Prod.mk.injEq] at H
        obtain ⟨rfl, rfl, rfl⟩ := H
        (first | (obtain rfl := Er.ErrR.nil_ hE_t339.out) | (refine (Er.ErrR.some_ hE_t339.out (Aside0.out ?hsE)).elim ?_; (case hsE => with_reducible assumption); rintro T_hE_t339 ⟨X_hE_t339, rfl⟩) | skip)
        refine norm_ (a' := ?_) ?_ ?_
        rotate_left
        · simp only [putAll, Act.put, List.setIfInBounds_toArray, List.set_cons_zero, List.set_cons_succ, errW_none]
          rfl
        refine one_ (i := 10) (N := none) #[tt,tt,tt,tt,tt,tt,tt,tt,tt,tt,tt,ff] rfl rfl (one_of HT_.out (by kernel_rfl)) (by decide) (fun K hK => ?_)
        have hs118 : w117.cell? ⟨gb340, 0, none⟩ = some (.int .u8 0) := (blk_cell BK340.out 0).trans rfl; have hfs118 := blk_frozen BK340.out 0; have hns118_0 := NB294_340.out; have hms118_0 := NB340_294.out; have hs120 : w117.cell? ⟨gb340, 1, none⟩ = some (.slice none 0 0) := (blk_cell BK340.out 1).trans rfl; have hfs120 := blk_frozen BK340.out 1; have hns120_0 := NB294_340.out; have hms120_0 := NB340_294.out
        refine skip_ (w1 := ?_) (by rfl) rfl ?_ ?_
        rotate_left
        · go_simp
          rfl
        refine hK.out _ _ trivial (fun hHeld => ?_)
        clear hK K
        refine HW.pz (i := 11) (N := some 14) #[tt,tt,tt,tt,tt,tt,tt,tt,tt,tt,tt,tt] ?_ (hc := any_of HT_.out (by kernel_rfl))
        refine done_ (done_of HT_.out (by kernel_rfl)) ?_
        have hnb121 := NB294_340.out; have hnc121 := NB340_294.out; obtain ⟨hcz122_0, hcz122_1, hfz123_0, hfz123_1⟩ := HW.k2f BK294.out
        try go_wp2
        refine bodyPost_ret (results_ct rfl _ _ gb294 67 #[.int .u8 0, .slice none 0 0] (0, 0) _ rfl (by (with_reducible repeat (first | refine blk_drewN ?_ _ | refine blk_drew ?_ | refine blk_alloc ?_ _)); refine blk_put (cs := #[.int .u8 0, .slice none 0 0]) ?_ 1 _ rfl; (with_reducible repeat (first | refine blk_drewN ?_ _ | refine blk_drew ?_ | refine blk_alloc ?_ _)); refine blk_put (cs := #[.int .u8 x295000_1, .slice none 0 0]) ?_ 0 _ rfl; (with_reducible repeat (first | refine blk_drewN ?_ _ | refine blk_drew ?_ | refine blk_alloc ?_ _)); refine blk_far ?_ NB294_340.out _; (with_reducible repeat (first | refine blk_drewN ?_ _ | refine blk_drew ?_ | refine blk_alloc ?_ _)); refine blk_far ?_ NB294_340.out _; exact HW.zB BK294.out) Tryz.underlying67 rfl (by kernel_rfl)) rfl ?_
        exact ⟨_, _, rfl, (by first | exact Er.ErrR.nil | (refine Aside0.out ?_; first | with_reducible assumption | assumption) | exact Er.ErrR.val _ | exact Er.ErrR.mal _ | exact Er.ErrR.dep _ _ | (refine Er.ErrR.few _ _ ?_ ?_ <;> first | exact ⟨_, _, _, rfl⟩ | (refine Er.isl_V (Aside0.out ?_); with_reducible assumption)) | (refine Er.ErrR.sent _ _ ?_ ?_ <;> decide)), Kd.V_nil _ _ _ _ _, HW.zb⟩
end Go.Proofs.YtbfhpjkahobgnaaGreatDoor.PLo
