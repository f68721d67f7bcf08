/- Printed by a program of this session (a turned copy of the printer of the kit): contracts of functions of the translation, each with the Lean function that it computes. Conditions: as each theorem states them. -/
import Derived.Test.YthlpmeiihchdjaaPDEx0
namespace Go.Proofs.Ythlpmeiihchdjaa.PDE
open Go.RowKit Go.Proofs.YthlpmeiihchdjaaW.PrintWords Go.Proofs.YthlpmeiihchdjaaW.PrintLast Go.Proofs.YthlpmeiihchdjaaW.PrintMore
attribute [local go_sem] max2_int min2_int max_two min_two max_three min_three max_four min_four   -- for this text's walks alone
set_option linter.unusedVariables false
set_option linter.unusedSimpArgs false

-- NOT PRINTED: function 58 (errors_New)

-- NOT PRINTED: function 72 (binary_littleEndian_PutUint32)

/-! ### bsoncore_UpdateLength: function 59 -/
/-- Four cells, the lowest byte first. -/
def put4 (l : List Int) (i : Nat) (v : Int) : List Int := (((l.set i (v % 256)).set (i + 1) (v / 256 % 256)).set (i + 2) (v / 65536 % 256)).set (i + 3) (v / 16777216)
def bsoncore_UpdateLength.f (l0 : List Int) (a1 : Int) (a2 : Int) : Option (List Int) := if 0 ≤ a1 then (if a1 + 4 ≤ (l0.length : Int) then (some (put4 l0 a1.toNat (a2 % 4294967296))) else none) else none
set_option maxHeartbeats 1000000 in
set_option maxRecDepth 100000 in
theorem put32_calls (g o n c : Nat) (v x0 x1 x2 x3 : Int) (w : World) (hn : 4 ≤ n) (hv0 : 0 ≤ v) (hv1 : v ≤ 4294967295)
    (c0 : w.cell? ⟨g, o, none⟩ = some (.int .u8 x0)) (c1 : w.cell? ⟨g, o + 1, none⟩ = some (.int .u8 x1)) (c2 : w.cell? ⟨g, o + 2, none⟩ = some (.int .u8 x2)) (c3 : w.cell? ⟨g, o + 3, none⟩ = some (.int .u8 x3))
    (f0 : w.frozen? ⟨g, o, none⟩ = false) (f1 : w.frozen? ⟨g, o + 1, none⟩ = false) (f2 : w.frozen? ⟨g, o + 2, none⟩ = false) (f3 : w.frozen? ⟨g, o + 3, none⟩ = false) :
    Calls Try.prog 72 #[.agg #[], .slice (some ⟨g, o, none⟩) n c, .int .u32 v] w fun e w' => e = .returned (.tuple #[]) ∧
      w' = ((((w.alloc (.cells #[] 109)).setCell ⟨g, o, none⟩ (.int .u8 (v % 256))).setCell ⟨g, o + 1, none⟩ (.int .u8 (v / 256 % 256))).setCell ⟨g, o + 2, none⟩ (.int .u8 (v / 65536 % 256))).setCell ⟨g, o + 3, none⟩ (.int .u8 (v / 16777216)) := by
  have q0 : (0 < n) = True := eq_true (by omega)
  have q1 : (1 < n) = True := eq_true (by omega)
  have q2 : (2 < n) = True := eq_true (by omega)
  have q3 : (3 < n) = True := eq_true (by omega)
  have r1 : ((1 : Int) < (n : Int)) = True := eq_true (by omega)
  have r2 : ((2 : Int) < (n : Int)) = True := eq_true (by omega)
  have r3 : ((3 : Int) < (n : Int)) = True := eq_true (by omega)
  have d0 : (w.alloc (.cells #[] 109)).cell? ⟨g, o, none⟩ = some (.int .u8 x0) := pw_cell_below (below_alloc (Below.refl _ _) _) c0
  have e0 : (w.alloc (.cells #[] 109)).frozen? ⟨g, o, none⟩ = false := ((below_alloc (Below.refl _ _) _).frozen (p := ⟨g, o, none⟩) (World.block_lt_of_cell? w _ c0)).trans f0
  have d1 : (w.alloc (.cells #[] 109)).cell? ⟨g, o + 1, none⟩ = some (.int .u8 x1) := pw_cell_below (below_alloc (Below.refl _ _) _) c1
  have e1 : (w.alloc (.cells #[] 109)).frozen? ⟨g, o + 1, none⟩ = false := ((below_alloc (Below.refl _ _) _).frozen (p := ⟨g, o + 1, none⟩) (World.block_lt_of_cell? w _ c1)).trans f1
  have d2 : (w.alloc (.cells #[] 109)).cell? ⟨g, o + 2, none⟩ = some (.int .u8 x2) := pw_cell_below (below_alloc (Below.refl _ _) _) c2
  have e2 : (w.alloc (.cells #[] 109)).frozen? ⟨g, o + 2, none⟩ = false := ((below_alloc (Below.refl _ _) _).frozen (p := ⟨g, o + 2, none⟩) (World.block_lt_of_cell? w _ c2)).trans f2
  have d3 : (w.alloc (.cells #[] 109)).cell? ⟨g, o + 3, none⟩ = some (.int .u8 x3) := pw_cell_below (below_alloc (Below.refl _ _) _) c3
  have e3 : (w.alloc (.cells #[] 109)).frozen? ⟨g, o + 3, none⟩ = false := ((below_alloc (Below.refl _ _) _).frozen (p := ⟨g, o + 3, none⟩) (World.block_lt_of_cell? w _ c3)).trans f3
  go_enter Try.func72, Try.ntmps72
  go_wp2
  go_end0
  exact ⟨rfl, rfl⟩
theorem put4_world {w0 w : World} {e : Nat} {ok S : Nat → Prop} {g n cap j : Nat} {xs : List Int} (o : Obj) (b0 b1 b2 b3 : Int) (h : (Kd.int .u8).R e w w0.heap.size ok (.slice (some ⟨g, 0, none⟩) n cap) xs) (hB : Below w0.heap.size w0 w) (hg : w0.heap.size ≤ g) (hS : S g) :
    (Kd.int .u8).R e (((((w.alloc o).setCell ⟨g, j, none⟩ (.int .u8 b0)).setCell ⟨g, j + 1, none⟩ (.int .u8 b1)).setCell ⟨g, j + 2, none⟩ (.int .u8 b2)).setCell ⟨g, j + 3, none⟩ (.int .u8 b3)).drew w0.heap.size ok (.slice (some ⟨g, 0, none⟩) n cap) ((((xs.set j b0).set (j + 1) b1).set (j + 2) b2).set (j + 3) b3) ∧
    Below w0.heap.size w0 (((((w.alloc o).setCell ⟨g, j, none⟩ (.int .u8 b0)).setCell ⟨g, j + 1, none⟩ (.int .u8 b1)).setCell ⟨g, j + 2, none⟩ (.int .u8 b2)).setCell ⟨g, j + 3, none⟩ (.int .u8 b3)).drew ∧
    Kept w (((((w.alloc o).setCell ⟨g, j, none⟩ (.int .u8 b0)).setCell ⟨g, j + 1, none⟩ (.int .u8 b1)).setCell ⟨g, j + 2, none⟩ (.int .u8 b2)).setCell ⟨g, j + 3, none⟩ (.int .u8 b3)).drew S := by
  refine ⟨?_, ?_, ?_⟩
  · refine Kd.R_drew ?_
    have p0 := Kd.R_putn (enc := Value.int .u8) (h1 := fun _ => rfl) (Kd.R_alloc h o) (j : Int) b0
    have p1 := Kd.R_putn (enc := Value.int .u8) (h1 := fun _ => rfl) p0 ((j + 1 : Nat) : Int) b1
    have p2 := Kd.R_putn (enc := Value.int .u8) (h1 := fun _ => rfl) p1 ((j + 2 : Nat) : Int) b2
    exact Kd.R_putn (enc := Value.int .u8) (h1 := fun _ => rfl) p2 ((j + 3 : Nat) : Int) b3
  · exact below_drew (below_set (below_set (below_set (below_set (hB.alloc hB.size o) hg) hg) hg) hg)
  · exact Kept.drew (Kept.setCell (Kept.setCell (Kept.setCell (Kept.setCell (Kept.alloc (Kept.refl _ _) o) (p := ⟨g, j, none⟩) (.inl hS) _) (p := ⟨g, j + 1, none⟩) (.inl hS) _) (p := ⟨g, j + 2, none⟩) (.inl hS) _) (p := ⟨g, j + 3, none⟩) (.inl hS) _)
set_option maxHeartbeats 1000000 in
set_option maxRecDepth 100000 in
theorem bsoncore_UpdateLength.calls (P0_ : Nat → Prop) (u9000_ : Value) (l0 : List Int) (a1 : Int) (a2 : Int) (r : List Int) (w0 w : World) (hB : Below w0.heap.size w0 w) (ho0 : Kd.R (Kd.int .u8) 5 w w0.heap.size P0_ u9000_ l0) (h : bsoncore_UpdateLength.f l0 a1 a2 = some r) :
    Calls Try.prog 59 #[u9000_, .int .i32 a1, .int .i32 a2] w fun e w' => ∃ v0_ : Value, e = .returned (v0_) ∧ Kd.R (Kd.int .u8) 5 w' w0.heap.size (fun k_ => (P0_ k_ ∨ w.heap.size ≤ k_)) v0_ r ∧ Below w0.heap.size w0 w' ∧ Kept w w' (fun k_ => P0_ k_) := by
  have hh : (0 ≤ a1 ∧ a1 + 4 ≤ (l0.length : Int)) ∧ r = put4 l0 a1.toNat (a2 % 4294967296) := by
    unfold bsoncore_UpdateLength.f at h
    by_cases h0 : 0 ≤ a1
    · rw [if_pos h0] at h
      by_cases h1 : a1 + 4 ≤ (l0.length : Int)
      · rw [if_pos h1] at h
        exact ⟨⟨h0, h1⟩, (Option.some.inj h).symm⟩
      · rw [if_neg h1] at h; cases h
    · rw [if_neg h0] at h; cases h
  obtain ⟨⟨h0, h1⟩, rfl⟩ := hh
  clear h
  have hown := Kd.own_of_R (enc := Value.int .u8) (h1 := fun _ => rfl) ho0
  have hform : ∃ g cap, u9000_ = .slice (some ⟨g, 0, none⟩) l0.length cap ∧ l0.length ≤ cap := by
    rcases hown.2 with ⟨_, hz⟩ | ⟨g, cap, cur, hv, _, _, hc, _⟩
    · omega
    · exact ⟨g, cap, hv, hc⟩
  obtain ⟨g, cap, rfl, hcap⟩ := hform
  obtain ⟨j, rfl⟩ : ∃ j : Nat, a1 = (j : Int) := ⟨a1.toNat, by omega⟩
  obtain ⟨i0, hi0, hz0⟩ := Option.map_eq_some_iff.1 info5
  simp only [Prod.mk.injEq] at hz0
  have hcut := cut_from (P := Try.prog) 24 5 .i32 Try.underlying24 hi0 1 hz0.2.1 (some ⟨g, 0, none⟩) l0.length cap (j : Int) (by omega) (by omega)
  have hne : ¬ (cap = (j : Int).toNat) := by omega
  rw [if_neg hne] at hcut
  have hadd : ((some ⟨g, 0, none⟩ : Option Addr).map (·.add ((j : Int).toNat * 1))) = some ⟨g, j, none⟩ := by
    show some ((⟨g, 0, none⟩ : Addr).add ((j : Int).toNat * 1)) = _
    rw [add_plain]
    simp
  rw [hadd] at hcut
  simp only [Int.toNat_natCast] at hcut
  have hat : ∀ i : Nat, i < 4 → w.cell? ⟨g, j + i, none⟩ = some (.int .u8 (rd l0 ((j + i : Nat) : Int))) ∧ w.frozen? ⟨g, j + i, none⟩ = false := by
    intro i hi
    have := own_at (k := .u8) (xs := l0) hown ((j + i : Nat) : Int) (by omega) (by omega)
    rw [Int.toNat_natCast] at this
    exact this
  have c0 := (hat 0 (by omega)).1
  have f0 := (hat 0 (by omega)).2
  have c1 := (hat 1 (by omega)).1
  have f1 := (hat 1 (by omega)).2
  have c2 := (hat 2 (by omega)).1
  have f2 := (hat 2 (by omega)).2
  have c3 := (hat 3 (by omega)).1
  have f3 := (hat 3 (by omega)).2
  have HO := Aside0.mk ho0
  have HB := Aside0.mk hB
  have HG := Aside0.mk (own_base hown g rfl)
  clear hat hne hadd hown hz0 ho0 hB
  go_enter Try.func59, Try.ntmps59
  go_wp2
  go_still_tail 6, (by kernel_rfl)
  change wpList _ _ _ _ _ w.drew
  have hwr : IntKind.u32.wrap a2 = a2 % 4294967296 := by simp [IntKind.wrap, IntKind.bits, IntKind.signed]
  rw [hwr]
  go_wp2_with (go_at_call 72; refine (put32_calls g j (l0.length - j) (cap - j) (a2 % 4294967296) _ _ _ _ w.drew (by omega) (by omega) (by omega) c0 c1 c2 c3 f0 f1 f2 f3).mono ?_; rintro e w' ⟨rfl, rfl⟩)
  go_ret
  have hmm : a2 % 256 = a2 % 4294967296 % 256 := by omega
  rw [hmm]
  obtain ⟨pR, pB, pK⟩ := put4_world (j := j) (S := fun k_ => P0_ k_) (.cells #[] 109) (a2 % 4294967296 % 256) (a2 % 4294967296 / 256 % 256) (a2 % 4294967296 / 65536 % 256) (a2 % 4294967296 / 16777216) HO.out HB.out HG.out (HO.out.1 g rfl)
  exact ⟨_, rfl, Kd.R_mono pR (fun _ h => .inl h), pB, pK⟩

-- NOT PRINTED: function 37 (bsoncore_AppendDocumentEnd)

/-! ### impl_own: function 38 -/
def impl_own.f (l0 : List Int) : Option (List Int) := if ([] : List Int).length + l0.length < 140737488355328 then (some (([] : List Int) ++ l0)) else (none)
set_option maxHeartbeats 8000000 in
set_option maxRecDepth 100000 in
theorem impl_own.calls (A0 : Option Addr) (c0 : Nat) (l0 : List Int) (r : List Int) (w : World) (hr0 : Kd.C (Kd.int .u8) w A0 l0.length l0) (hc0 : l0.length ≤ c0) (h : impl_own.f l0 = some r) :
    Calls Try.prog 38 #[.slice A0 l0.length c0] w fun e w' => ∃ v0_ : Value, e = .returned (v0_) ∧ Kd.R (Kd.int .u8) 5 w' w.heap.size (fun _ => True) v0_ r ∧ Below w.heap.size w w' := by
  have HR0 := Aside0.mk hr0
  have HC0 := Aside0.mk hc0
  clear hr0 hc0
  have HB := Aside0.mk (Below.refl w.heap.size w)
  have H : (if ([] : List Int).length + l0.length < 140737488355328 then (some (([] : List Int) ++ l0)) else (none)) = some r := h
  clear h
  by_cases c2 : ([] : List Int).length + l0.length < 140737488355328
  · rw [if_pos c2] at H
    have LMc2 := Aside0.mk c2
    clear c2
    obtain ⟨y102, hy102⟩ : ∃ y_ : List Int, y_ = (([] : List Int) ++ l0) := ⟨_, rfl⟩
    replace H : (some y102) = some r := by first | (rw [hy102]; with_reducible exact H) | (have H2_ := (Option.bind_some _ _).symm.trans H; rw [hy102]; with_reducible exact H2_) | (have H2_ := (Option.bind_some _ _).symm.trans H; with_reducible exact H2_) | with_reducible exact H | (rw [hy102]; exact H) | exact H
    have Ny102 := Aside0.mk hy102
    clear hy102
    as_aux_lemma =>
      obtain rfl := Option.some.inj H
      go_enter Try.func38, Try.ntmps38
      go_wp2_with (first | ((with_reducible refine gate_builtin (b := .append) (xs := #[.const (.slice none 0 0), .tmp 3]) rfl ?_); at_builtin; refine Kd.R_append_rows (Kd.int .u8) (w0 := w) w.heap.size rfl (.const (.slice none 0 0)) (.tmp 3) 24 5 (.int .u8 0) 1 rfl Try.underlying24 info5 rfl (by decide) (by omega) (.slice none 0 0) ([] : List Int) l0 _ _ _ (fun _ => True) (fun _ => False) rfl rfl ?aO ?aR (fun _ _ h => h) (fun _ h => h.elim) ?aF ?aB ?aS ?aL ?_; (case aR => repeat (first | exact HR0.out | (with_reducible refine Kd.C_alloc ?_ _) | (with_reducible refine Kd.C_drewN ?_ _) | (with_reducible refine Kd.C_drew ?_))); (case aB => exact (by repeat (first | (with_reducible first | exact HB.out | apply below_alloc | apply pw_below_drewN | apply below_drew1) | exact HB.out))); (case aF => exact (fun _ _ => trivial)); (case aO => exact ((Kd.R_nil _ _ _ _ (fun _ => True)))); (case aS => exact (below_size (by repeat (first | (with_reducible first | exact HB.out | apply below_alloc | apply pw_below_drewN | apply below_drew1) | exact HB.out)))); (case aL => have := LMc2.out; omega); intro v103 w3 ho hb hg hat; rw [← Ny102.out] at ho; have n0_ := Aside0.mk (hb); have n1_ := Aside0.mk (ho); clear HB; have HB := n0_; have HO104 := n1_; clear n0_ n1_; clear ho hb hg hat))
      go_ret
      exact ⟨_, by first | rfl | (simp [errW_none, errW_some] <;> rfl) | (simp [*, errW_none, errW_some] <;> rfl), by (with_reducible repeat (first | apply Kd.R_alloc | apply Kd.R_drewN | apply Kd.R_drew)); exact HO104.out, by repeat (first | (with_reducible first | exact HB.out | apply below_alloc | apply pw_below_drewN | apply below_drew1) | exact HB.out)⟩
  · rw [if_neg c2] at H
    exact absurd H (by simp)

/-! ### impl_DocumentEnd: function 11 -/
set_option maxHeartbeats 1000000 in
set_option maxRecDepth 100000 in
theorem AppendDocumentEnd_ok (P0_ : Nat → Prop) (u9000_ : Value) (l0 : List Int) (j : Nat) (w0 w : World) (hB : Below w0.heap.size w0 w) (ho0 : Kd.R (Kd.int .u8) 5 w w0.heap.size P0_ u9000_ l0) (h1 : j + 4 ≤ l0.length) (hl : l0.length ≤ 1000000000) :
    Calls Try.prog 37 #[u9000_, .int .i32 (j : Int)] w fun e w' => ∃ v0_ : Value, e = .returned (.tuple #[v0_, .nilIface]) ∧ Kd.R (Kd.int .u8) 5 w' w0.heap.size (fun k_ => (P0_ k_ ∨ w.heap.size ≤ k_)) v0_ (put4 (l0 ++ [0]) j ((l0.length + 1 - j : Nat) : Int)) ∧ Below w0.heap.size w0 w' ∧ Kept w w' (fun k_ => P0_ k_) := by
  obtain ⟨g, cap, rfl, hg1, hg2, _⟩ := Kd.R_form ho0 (by omega)
  have HO := Aside0.mk (show Kd.R (Kd.int .u8) 5 w w0.heap.size (fun k_ => (P0_ k_ ∨ w.heap.size ≤ k_)) (.slice (some ⟨g, 0, none⟩) l0.length cap) l0 from Kd.R_mono ho0 (fun k_ hk => .inl hk))
  have HP := Aside0.mk (show P0_ g from ho0.1 g rfl)
  have HB := Aside0.mk hB
  clear ho0 hB hg1 hg2
  have ht : decide (((l0.length : Int) - 4) < (j : Int)) = false := decide_eq_false (by omega)
  have hf : bsoncore_UpdateLength.f (l0 ++ [0]) (j : Int) ((l0.length + 1 - j : Nat) : Int) = some (put4 (l0 ++ [0]) j ((l0.length + 1 - j : Nat) : Int)) := by
    unfold bsoncore_UpdateLength.f
    rw [if_pos (by omega), if_pos (by simp; omega), Int.toNat_natCast, show ((l0.length + 1 - j : Nat) : Int) % 4294967296 = ((l0.length + 1 - j : Nat) : Int) from by omega]
  have HF := Aside0.mk hf
  clear hf
  go_enter Try.func37, Try.ntmps37
  go_wp2_with (first | ((with_reducible refine gate_builtin (b := .append) (xs := #[.tmp 14, .tmp 15]) rfl ?_); at_builtin; refine Kd.R_append (Kd.int .u8) (w0 := w0) w0.heap.size rfl (.tmp 14) (.tmp 15) 24 5 (.int .u8 0) 1 rfl Try.underlying24 info5 rfl (by decide) (by omega) (.slice (some ⟨g, 0, none⟩) l0.length cap) l0 0 [.int .u8 0] (fun k_ => (P0_ k_ ∨ w.heap.size ≤ k_)) (fun _ => False) rfl rfl ?aP (fun _ hk => hk.elim) ?aF ?aO ?aB ?aS ?aL ?_; (case aP => exact rfl); (case aF => exact (fun k_ hk => .inr hk)); (case aO => exact HO.out); (case aB => exact HB.out); (case aS => exact HB.out.size); (case aL => omega); intro v1 w4 ho hb hgr hat; obtain ⟨g2, cap2, rfl, _, _, _⟩ := Kd.R_form ho (by simp); have hc2 : l0.length + 1 ≤ cap2 := (by have := (Kd.R_reads' ho).2.1; simp at this; omega); have hne2 : (cap2 = j) = False := eq_false (by omega); clear hc2; have HO2 := Aside0.mk ho; have HB2 := Aside0.mk hb; have HK2 := Aside0.mk (Kept.of_grown (S := (fun k_ => P0_ k_)) hgr (Kept.refl w _) (fun k hk => by injection hk with hk; exact .inl (hk ▸ HP.out))); clear ho hb hgr hat HO HB) | (go_at_call 59; with_reducible refine (bsoncore_UpdateLength.calls (fun k_ => (P0_ k_ ∨ w.heap.size ≤ k_)) _ (l0 ++ [0]) (j : Int) ((l0.length + 1 - j : Nat) : Int) _ w0 _ HB2.out ?hR HF.out).mono ?_; (case hR => first | exact HO2.out | (have hq := HO2.out; simpa using hq)); rintro e w' ⟨v0, rfl, hr, hb, hk⟩; have HR := Aside0.mk hr; have HB3 := Aside0.mk hb; have HK3 := Aside0.mk hk; clear hr hb hk))
  go_ret2
  exact ⟨v0, rfl, Kd.R_mono HR.out (fun k_ hk => hk.elim id (fun h => .inr (Nat.le_trans HK2.out.1 h))), HB3.out, Kept.then_ HK2.out HK3.out (fun k_ hs => hs)⟩
set_option maxHeartbeats 1000000 in
set_option maxRecDepth 100000 in
theorem AppendDocumentEnd_bad (u9000_ : Value) (l0 : List Int) (j : Nat) (base : Nat) (ok : Nat → Prop) (w : World) (ho0 : Kd.R (Kd.int .u8) 5 w base ok u9000_ l0) (h1 : l0.length < j + 4) (hl : l0.length ≤ 1000000000) (hj : j ≤ 1000000000) :
    Calls Try.prog 37 #[u9000_, .int .i32 (j : Int)] w fun e w' => ∃ T x, e = .returned (.tuple #[u9000_, .iface T x]) ∧ Below w.heap.size w w' := by
  obtain ⟨A, cap, rfl⟩ := Kd.R_slice ho0
  clear ho0
  have ht : decide (((l0.length : Int) - 4) < (j : Int)) = true := decide_eq_true (by omega)
  go_enter Try.func37, Try.ntmps37
  go_wp2
  go_ret2
  exact ⟨_, _, rfl, (Below.refl _ _).alloc (Nat.le_refl _) _⟩
def impl_DocumentEnd.f (l0 : List Int) (a1 : Int) : Option (List Int × Bool) := if 0 ≤ a1 ∧ a1 ≤ 1000000000 ∧ l0.length ≤ 1000000000 then (if (l0.length : Int) < a1 + 4 then some (l0, false) else some (put4 (l0 ++ [0]) a1.toNat ((l0.length + 1 - a1.toNat : Nat) : Int), true)) else none
set_option maxHeartbeats 1000000 in
set_option maxRecDepth 100000 in
theorem impl_DocumentEnd.calls (A0 : Option Addr) (c0 : Nat) (l0 : List Int) (a1 : Int) (r1 : List Int) (r2 : Bool) (w : World) (hr0 : Kd.C (Kd.int .u8) w A0 l0.length l0) (hc0 : l0.length ≤ c0) (h : impl_DocumentEnd.f l0 a1 = some (r1, r2)) :
    Calls Try.prog 11 #[.slice A0 l0.length c0, .int .i64 a1] w fun e w' => ∃ v0_ : Value, e = .returned (.tuple #[v0_, .bool r2]) ∧ Kd.R (Kd.int .u8) 5 w' w.heap.size (fun _ => True) v0_ r1 ∧ Below w.heap.size w w' := by
  unfold impl_DocumentEnd.f at h
  by_cases hb : 0 ≤ a1 ∧ a1 ≤ 1000000000 ∧ l0.length ≤ 1000000000
  case neg => rw [if_neg hb] at h; cases h
  rw [if_pos hb] at h
  obtain ⟨hb0, hb1, hb2⟩ := hb
  obtain ⟨j, rfl⟩ : ∃ j : Nat, a1 = (j : Int) := ⟨a1.toNat, by omega⟩
  rw [Int.toNat_natCast] at h
  have HO : Aside0 (impl_own.f l0 = some l0) := ⟨by
    unfold impl_own.f
    rw [if_pos (by simp; omega)]
    rfl⟩
  have HR := Aside0.mk hr0
  have HC := Aside0.mk hc0
  clear hr0 hc0
  have hj0 : (0 : Int) ≤ (j : Int) := by omega
  by_cases ht : (l0.length : Int) < (j : Int) + 4
  · rw [if_pos ht] at h
    simp only [Option.some.injEq, Prod.mk.injEq] at h
    obtain ⟨rfl, rfl⟩ := h
    have HT : Aside0 (l0.length < j + 4) := ⟨by omega⟩
    have HL : Aside0 (l0.length ≤ 1000000000) := ⟨hb2⟩
    clear ht
    go_enter Try.func11, Try.ntmps11
    go_wp2_with (first | (go_at_call 38; refine (impl_own.calls _ _ l0 l0 w ?h1 ?h2 HO.out).mono ?_; (case h1 => exact HR.out); (case h2 => exact HC.out); rintro e w1 ⟨v, rfl, hr, hb⟩; have HRO := Aside0.mk hr; have HB := Aside0.mk hb; clear hr hb) | (go_at_call 37; with_reducible refine (AppendDocumentEnd_bad _ l0 j _ _ _ HRO.out HT.out HL.out ?h1).mono ?_; (case h1 => omega); rintro e w2 ⟨T, x, rfl, hb⟩; have HB2 := Aside0.mk hb; clear hb))
    repeat (go_quiet (fail); try go_wp2)
    go_ret2
    exact ⟨v, rfl, Kd.R_drewN (Kd.R_below HRO.out HB2.out) _, pw_below_drewN (below_step HB.out HB2.out) _⟩
  · rw [if_neg ht] at h
    simp only [Option.some.injEq, Prod.mk.injEq] at h
    obtain ⟨rfl, rfl⟩ := h
    have HT : Aside0 (j + 4 ≤ l0.length) := ⟨by omega⟩
    have HL : Aside0 (l0.length ≤ 1000000000) := ⟨hb2⟩
    clear ht
    go_enter Try.func11, Try.ntmps11
    go_wp2_with (first | (go_at_call 38; refine (impl_own.calls _ _ l0 l0 w ?h1 ?h2 HO.out).mono ?_; (case h1 => exact HR.out); (case h2 => exact HC.out); rintro e w1 ⟨v, rfl, hr, hb⟩; have HRO := Aside0.mk hr; have HB := Aside0.mk hb; clear hr hb) | (go_at_call 37; with_reducible refine (AppendDocumentEnd_ok (fun _ => True) _ l0 j w _ HB.out HRO.out HT.out HL.out).mono ?_; rintro e w2 ⟨v2, rfl, hr, hb, _⟩; have HR2 := Aside0.mk hr; have HB2 := Aside0.mk hb; clear hr hb))
    repeat (go_quiet (fail); try go_wp2)
    go_ret2
    exact ⟨v2, rfl, Kd.R_drewN (Kd.R_mono HR2.out (fun _ _ => trivial)) _, pw_below_drewN HB2.out _⟩

/-! ### laws_docCopy: function 12 -/
def laws_docCopy.f (l0 : List Int) : Option (List Int) := (some (([] : List Int) : List Int)).bind fun y105 => (if y105.length + l0.length < 140737488355328 then (some (y105 ++ l0)) else (none))
set_option maxHeartbeats 8000000 in
set_option maxRecDepth 100000 in
theorem laws_docCopy.calls (A0 : Option Addr) (c0 : Nat) (l0 : List Int) (r : List Int) (w : World) (hr0 : Kd.C (Kd.int .u8) w A0 l0.length l0) (hc0 : l0.length ≤ c0) (h : laws_docCopy.f l0 = some r) :
    Calls Try.prog 12 #[.slice A0 l0.length c0] w fun e w' => ∃ v0_ : Value, e = .returned (v0_) ∧ Kd.R (Kd.int .u8) 5 w' w.heap.size (fun _ => True) v0_ r ∧ Below w.heap.size w w' := by
  have HR0 := Aside0.mk hr0
  have HC0 := Aside0.mk hc0
  clear hr0 hc0
  have HB := Aside0.mk (Below.refl w.heap.size w)
  have H : ((some (([] : List Int) : List Int)).bind fun y105 => (if y105.length + l0.length < 140737488355328 then (some (y105 ++ l0)) else (none))) = some r := h
  clear h
  obtain ⟨y105, hy105⟩ : ∃ y_ : List Int, y_ = (([] : List Int)) := ⟨_, rfl⟩
  replace H : (if y105.length + l0.length < 140737488355328 then (some (y105 ++ l0)) else (none)) = some r := by first | (rw [hy105]; with_reducible exact H) | (have H2_ := (Option.bind_some _ _).symm.trans H; rw [hy105]; with_reducible exact H2_) | (have H2_ := (Option.bind_some _ _).symm.trans H; with_reducible exact H2_) | with_reducible exact H | (rw [hy105]; exact H) | exact H
  have Ny105 := Aside0.mk hy105
  clear hy105
  by_cases c2 : y105.length + l0.length < 140737488355328
  · rw [if_pos c2] at H
    have LMc2 := Aside0.mk c2
    clear c2
    obtain ⟨y108, hy108⟩ : ∃ y_ : List Int, y_ = (y105 ++ l0) := ⟨_, rfl⟩
    replace H : (some y108) = some r := by first | (rw [hy108]; with_reducible exact H) | (have H2_ := (Option.bind_some _ _).symm.trans H; rw [hy108]; with_reducible exact H2_) | (have H2_ := (Option.bind_some _ _).symm.trans H; with_reducible exact H2_) | with_reducible exact H | (rw [hy108]; exact H) | exact H
    have Ny108 := Aside0.mk hy108
    clear hy108
    as_aux_lemma =>
      obtain rfl := Option.some.inj H
      go_enter Try.func12, Try.ntmps12
      go_wp2_with (first | ((with_reducible refine gate_dst (N := 3) rfl ?_); refine Kd.R_lit (Kd.int .u8) _ 5 ?hg (N := 3) ?hd (xs := ([] : List Int)) (inner := []) (ok := fun _ => True) (okp := fun _ => True) ?hr ?hp (fun _ hk => hk) trivial (Below.refl _ _) (Nat.le_refl _) (by simp) ?_; (case hd => rfl); (case hg => rfl); (case hr => first | (go_simp; done) | (go_simp; rfl)); (case hp => exact (Reps.none _ _)); intro v106 w3 ho4 hb hg_ hnew_; clear hg_ hnew_; (first | rw [← Ny105.out] at ho4 | (simp only [Int.reduceToNat] at ho4; rw [← Ny105.out] at ho4)); have n0_ := Aside0.mk (Kd.R_lower ho4 (below_size (by repeat (first | (with_reducible first | exact HB.out | apply below_alloc | apply pw_below_drewN | apply below_drew1) | exact HB.out)))); have n1_ := Aside0.mk (below_step (by repeat (first | (with_reducible first | exact HB.out | apply below_alloc | apply pw_below_drewN | apply below_drew1) | exact HB.out)) hb); clear HB; have HO107 := n0_; have HB := n1_; clear n0_ n1_; clear hb ho4) | ((with_reducible refine gate_builtin (b := .append) (xs := #[.tmp 3, .tmp 4]) rfl ?_); at_builtin; refine Kd.R_append_rows (Kd.int .u8) (w0 := w) w.heap.size rfl (.tmp 3) (.tmp 4) 24 5 (.int .u8 0) 1 rfl Try.underlying24 info5 rfl (by decide) (by omega) v106 y105 l0 _ _ _ (fun _ => True) (fun _ => False) rfl rfl ?aO ?aR (fun _ _ h => h) (fun _ h => h.elim) ?aF ?aB ?aS ?aL ?_; (case aR => repeat (first | exact (Kd.C_below HR0.out HB.out) | (with_reducible refine Kd.C_alloc ?_ _) | (with_reducible refine Kd.C_drewN ?_ _) | (with_reducible refine Kd.C_drew ?_))); (case aB => exact (by repeat (first | (with_reducible first | exact HB.out | apply below_alloc | apply pw_below_drewN | apply below_drew1) | exact HB.out))); (case aF => exact (fun _ _ => trivial)); (case aO => exact (by (with_reducible repeat (first | apply Kd.R_alloc | apply Kd.R_drewN | apply Kd.R_drew)); exact HO107.out)); (case aS => exact (below_size (by repeat (first | (with_reducible first | exact HB.out | apply below_alloc | apply pw_below_drewN | apply below_drew1) | exact HB.out)))); (case aL => have := LMc2.out; omega); intro v109 w5 ho hb hg hat; rw [← Ny108.out] at ho; have n0_ := Aside0.mk (hb); have n1_ := Aside0.mk (ho); clear HB; clear HO107; have HB := n0_; have HO110 := n1_; clear n0_ n1_; clear ho hb hg hat))
      go_ret
      exact ⟨_, by first | rfl | (simp [errW_none, errW_some] <;> rfl) | (simp [*, errW_none, errW_some] <;> rfl), by (with_reducible repeat (first | apply Kd.R_alloc | apply Kd.R_drewN | apply Kd.R_drew)); exact HO110.out, by repeat (first | (with_reducible first | exact HB.out | apply below_alloc | apply pw_below_drewN | apply below_drew1) | exact HB.out)⟩
  · rw [if_neg c2] at H
    exact absurd H (by simp)

-- NOT PRINTED: function 39 (bsoncore_AppendArrayEnd)

/-! ### impl_ArrayEnd: function 13 -/
set_option maxHeartbeats 1000000 in
set_option maxRecDepth 100000 in
theorem AppendArrayEnd_ok (P0_ : Nat → Prop) (u9000_ : Value) (l0 : List Int) (j : Nat) (w0 w : World) (hB : Below w0.heap.size w0 w) (ho0 : Kd.R (Kd.int .u8) 5 w w0.heap.size P0_ u9000_ l0) (h1 : j + 4 ≤ l0.length) (hl : l0.length ≤ 1000000000) :
    Calls Try.prog 39 #[u9000_, .int .i32 (j : Int)] w fun e w' => ∃ v0_ : Value, e = .returned (.tuple #[v0_, .nilIface]) ∧ Kd.R (Kd.int .u8) 5 w' w0.heap.size (fun k_ => (P0_ k_ ∨ w.heap.size ≤ k_)) v0_ (put4 (l0 ++ [0]) j ((l0.length + 1 - j : Nat) : Int)) ∧ Below w0.heap.size w0 w' ∧ Kept w w' (fun k_ => P0_ k_) := by
  have HO := Aside0.mk ho0
  have HB := Aside0.mk hB
  clear ho0 hB
  go_enter Try.func39, Try.ntmps39
  go_wp2_with (go_at_call 37; with_reducible refine (AppendDocumentEnd_ok P0_ _ l0 j w0 _ HB.out HO.out h1 hl).mono ?_; rintro e w' ⟨v0, rfl, hr, hb, hk⟩; have HR := Aside0.mk hr; have HB2 := Aside0.mk hb; have HK := Aside0.mk hk; clear hr hb hk)
  go_ret2
  exact ⟨v0, rfl, HR.out, HB2.out, HK.out⟩
set_option maxHeartbeats 1000000 in
set_option maxRecDepth 100000 in
theorem AppendArrayEnd_bad (u9000_ : Value) (l0 : List Int) (j : Nat) (base : Nat) (ok : Nat → Prop) (w : World) (ho0 : Kd.R (Kd.int .u8) 5 w base ok u9000_ l0) (h1 : l0.length < j + 4) (hl : l0.length ≤ 1000000000) (hj : j ≤ 1000000000) :
    Calls Try.prog 39 #[u9000_, .int .i32 (j : Int)] w fun e w' => ∃ T x, e = .returned (.tuple #[u9000_, .iface T x]) ∧ Below w.heap.size w w' := by
  have HO := Aside0.mk ho0
  clear ho0
  go_enter Try.func39, Try.ntmps39
  go_wp2_with (go_at_call 37; with_reducible refine (AppendDocumentEnd_bad _ l0 j _ _ _ HO.out h1 hl hj).mono ?_; rintro e w' ⟨T, x, rfl, hb⟩; have HB2 := Aside0.mk hb; clear hb)
  go_ret2
  exact ⟨T, x, rfl, HB2.out⟩
def impl_ArrayEnd.f (l0 : List Int) (a1 : Int) : Option (List Int × Bool) := if 0 ≤ a1 ∧ a1 ≤ 1000000000 ∧ l0.length ≤ 1000000000 then (if (l0.length : Int) < a1 + 4 then some (l0, false) else some (put4 (l0 ++ [0]) a1.toNat ((l0.length + 1 - a1.toNat : Nat) : Int), true)) else none
set_option maxHeartbeats 1000000 in
set_option maxRecDepth 100000 in
theorem impl_ArrayEnd.calls (A0 : Option Addr) (c0 : Nat) (l0 : List Int) (a1 : Int) (r1 : List Int) (r2 : Bool) (w : World) (hr0 : Kd.C (Kd.int .u8) w A0 l0.length l0) (hc0 : l0.length ≤ c0) (h : impl_ArrayEnd.f l0 a1 = some (r1, r2)) :
    Calls Try.prog 13 #[.slice A0 l0.length c0, .int .i64 a1] w fun e w' => ∃ v0_ : Value, e = .returned (.tuple #[v0_, .bool r2]) ∧ Kd.R (Kd.int .u8) 5 w' w.heap.size (fun _ => True) v0_ r1 ∧ Below w.heap.size w w' := by
  unfold impl_ArrayEnd.f at h
  by_cases hb : 0 ≤ a1 ∧ a1 ≤ 1000000000 ∧ l0.length ≤ 1000000000
  case neg => rw [if_neg hb] at h; cases h
  rw [if_pos hb] at h
  obtain ⟨hb0, hb1, hb2⟩ := hb
  obtain ⟨j, rfl⟩ : ∃ j : Nat, a1 = (j : Int) := ⟨a1.toNat, by omega⟩
  rw [Int.toNat_natCast] at h
  have HO : Aside0 (impl_own.f l0 = some l0) := ⟨by
    unfold impl_own.f
    rw [if_pos (by simp; omega)]
    rfl⟩
  have HR := Aside0.mk hr0
  have HC := Aside0.mk hc0
  clear hr0 hc0
  have hj0 : (0 : Int) ≤ (j : Int) := by omega
  by_cases ht : (l0.length : Int) < (j : Int) + 4
  · rw [if_pos ht] at h
    simp only [Option.some.injEq, Prod.mk.injEq] at h
    obtain ⟨rfl, rfl⟩ := h
    have HT : Aside0 (l0.length < j + 4) := ⟨by omega⟩
    have HL : Aside0 (l0.length ≤ 1000000000) := ⟨hb2⟩
    clear ht
    go_enter Try.func13, Try.ntmps13
    go_wp2_with (first | (go_at_call 38; refine (impl_own.calls _ _ l0 l0 w ?h1 ?h2 HO.out).mono ?_; (case h1 => exact HR.out); (case h2 => exact HC.out); rintro e w1 ⟨v, rfl, hr, hb⟩; have HRO := Aside0.mk hr; have HB := Aside0.mk hb; clear hr hb) | (go_at_call 39; with_reducible refine (AppendArrayEnd_bad _ l0 j _ _ _ HRO.out HT.out HL.out ?h1).mono ?_; (case h1 => omega); rintro e w2 ⟨T, x, rfl, hb⟩; have HB2 := Aside0.mk hb; clear hb))
    repeat (go_quiet (fail); try go_wp2)
    go_ret2
    exact ⟨v, rfl, Kd.R_drewN (Kd.R_below HRO.out HB2.out) _, pw_below_drewN (below_step HB.out HB2.out) _⟩
  · rw [if_neg ht] at h
    simp only [Option.some.injEq, Prod.mk.injEq] at h
    obtain ⟨rfl, rfl⟩ := h
    have HT : Aside0 (j + 4 ≤ l0.length) := ⟨by omega⟩
    have HL : Aside0 (l0.length ≤ 1000000000) := ⟨hb2⟩
    clear ht
    go_enter Try.func13, Try.ntmps13
    go_wp2_with (first | (go_at_call 38; refine (impl_own.calls _ _ l0 l0 w ?h1 ?h2 HO.out).mono ?_; (case h1 => exact HR.out); (case h2 => exact HC.out); rintro e w1 ⟨v, rfl, hr, hb⟩; have HRO := Aside0.mk hr; have HB := Aside0.mk hb; clear hr hb) | (go_at_call 39; with_reducible refine (AppendArrayEnd_ok (fun _ => True) _ l0 j w _ HB.out HRO.out HT.out HL.out).mono ?_; rintro e w2 ⟨v2, rfl, hr, hb, _⟩; have HR2 := Aside0.mk hr; have HB2 := Aside0.mk hb; clear hr hb))
    repeat (go_quiet (fail); try go_wp2)
    go_ret2
    exact ⟨v2, rfl, Kd.R_drewN (Kd.R_mono HR2.out (fun _ _ => trivial)) _, pw_below_drewN HB2.out _⟩

/-! ### laws_FnDocEndBad: function 4 -/
def laws_FnDocEndBad.j0 : Nat → List Int → Int → Bool → Option (Bool)
  | 0, _, _, _ => none
  | k + 1, x0, x1, x31 => if x31 = true then (some true) else ((laws_docCopy.f x0).bind fun t111 => ((impl_DocumentEnd.f t111 x1).bind fun bt114 => ((laws_docCopy.f x0).bind fun t118 => ((impl_ArrayEnd.f t118 x1).bind fun bt121 => ((impl_DocumentEnd.f (([0, 0, 0, 0] : List Int)) 0).bind fun bt128 => (if bt114.2 = true then (some false) else (if bt121.2 = true then (some false) else (if bt128.2 = true then (if (strOfNums bt114.1).toList = (strOfNums x0).toList then (some ((strOfNums bt121.1).toList == (strOfNums x0).toList)) else (some false)) else (some false)))))))))
def laws_FnDocEndBad.f (k : Nat) (l0 : List Int) (a1 : Int) : Option (Bool) := if (l0.length : Int) > 2147483647 then (some true) else (if (l0.length : Int) > 1000 then (laws_FnDocEndBad.j0 k l0 a1 true) else (if a1 < 0 then (laws_FnDocEndBad.j0 k l0 a1 true) else (if a1 > 2000 then (laws_FnDocEndBad.j0 k l0 a1 true) else (laws_FnDocEndBad.j0 k l0 a1 (decide ((l0.length : Int) ≥ (wrap64 (a1 + 4))))))))
theorem laws_FnDocEndBad.mono_l : ∀ k, (∀ y0 y1 y2, LeO (laws_FnDocEndBad.j0 k y0 y1 y2) (laws_FnDocEndBad.j0 (k + 1) y0 y1 y2))
  | 0 => fun _ _ _ r h => by simp [laws_FnDocEndBad.j0] at h
  | k + 1 => by
    have ih0 := laws_FnDocEndBad.mono_l k
    · intro y0 y1 y2
      unfold laws_FnDocEndBad.j0
      repeat' first
      | (with_reducible exact ih0 _ _ _)
      | (with_reducible exact LeO.refl _)
      | (with_reducible exact LeO.none _)
      | (with_reducible refine LeO.ite ?_ ?_)
      | (with_reducible refine LeO.bind ?_ (fun _ => ?_))
      | exact ih0 _ _ _
      | exact LeO.none _
      | refine LeO.ite ?_ ?_
      | refine LeO.bind ?_ (fun _ => ?_)
theorem laws_FnDocEndBad.mono : ∀ a0 a1 k, LeO (laws_FnDocEndBad.f k a0 a1) (laws_FnDocEndBad.f (k + 1) a0 a1) := by
  intro a0 a1 k
  have ih0 := laws_FnDocEndBad.mono_l k
  unfold laws_FnDocEndBad.f
  repeat' first
      | (with_reducible exact ih0 _ _ _)
      | (with_reducible exact LeO.refl _)
      | (with_reducible exact LeO.none _)
      | (with_reducible refine LeO.ite ?_ ?_)
      | (with_reducible refine LeO.bind ?_ (fun _ => ?_))
      | exact ih0 _ _ _
      | exact LeO.none _
      | refine LeO.ite ?_ ?_
      | refine LeO.bind ?_ (fun _ => ?_)
set_option maxHeartbeats 8000000 in
set_option maxRecDepth 100000 in
theorem laws_FnDocEndBad.calls (k : Nat) (A0 : Option Addr) (c0 : Nat) (l0 : List Int) (a1 : Int) (r : Bool) (w : World) (hr0 : Kd.C (Kd.int .u8) w A0 l0.length l0) (hc0 : l0.length ≤ c0) (h : laws_FnDocEndBad.f k l0 a1 = some r) :
    Calls Try.prog 4 #[.slice A0 l0.length c0, .int .i64 a1] w fun e w' => e = .returned (.bool r) ∧ Below w.heap.size w w' := by
  have HR0 := Aside0.mk hr0
  have HC0 := Aside0.mk hc0
  clear hr0 hc0
  have HB := Aside0.mk (Below.refl w.heap.size w)
  have H : (if (l0.length : Int) > 2147483647 then (some true) else (if (l0.length : Int) > 1000 then (laws_FnDocEndBad.j0 k l0 a1 true) else (if a1 < 0 then (laws_FnDocEndBad.j0 k l0 a1 true) else (if a1 > 2000 then (laws_FnDocEndBad.j0 k l0 a1 true) else (laws_FnDocEndBad.j0 k l0 a1 (decide ((l0.length : Int) ≥ (wrap64 (a1 + 4))))))))) = some r := h
  clear h
  by_cases c3 : (l0.length : Int) > 2147483647
  · rw [if_pos c3] at H
    have c3b0 : decide (2147483647 < (l0.length : Int)) = true := decide_eq_true c3
    have c3b1 : decide (2147483647 < l0.length) = true := decide_eq_true (by omega)
    clear c3
    as_aux_lemma =>
      obtain rfl := Option.some.inj H
      go_enter Try.func4, Try.ntmps4
      go_wp2
      go_ret
      exact ⟨by first | rfl | (simp [errW_none, errW_some] <;> rfl) | (simp [*, errW_none, errW_some] <;> rfl), by repeat (first | (with_reducible first | exact HB.out | apply below_alloc | apply pw_below_drewN | apply below_drew1) | exact HB.out)⟩
  · rw [if_neg c3] at H
    have c3b0 : decide (2147483647 < (l0.length : Int)) = false := decide_eq_false c3
    have c3b1 : decide (2147483647 < l0.length) = false := decide_eq_false (by omega)
    clear c3
    have HC4 := Aside0.mk H
    clear H
    go_enter Try.func4, Try.ntmps4
    go_upto_region 3 with (fail)
    go_cut [31] (fun v31 wc => ∃ (kq : Nat) (x31_3 : Bool), v31 = .bool x31_3 ∧ Aside0 (laws_FnDocEndBad.j0 kq l0 a1 x31_3 = some r) ∧ Aside0 (kq ≤ k) ∧ Aside0 (Below w.heap.size w wc))
    case first =>
      have H := HC4.out
      clear HC4
      by_cases c5 : (l0.length : Int) > 1000
      · rw [if_pos c5] at H
        have c5b0 : decide (1000 < (l0.length : Int)) = true := decide_eq_true c5
        have c5b1 : decide (1000 < l0.length) = true := decide_eq_true (by omega)
        clear c5
        (first | rw [c5b0] | (simp only [i64_w, i32_w]; rw [c5b0]) | skip)
        as_aux_lemma =>
          have H' := Aside0.mk H
          clear H
          go_wp2
          go_meet
          case rel => exact ⟨_, (true), (by first | rfl | (simp; done) | (simp [*]; done)), H', ⟨by first | omega | exact Nat.le_refl _⟩, ⟨by repeat (first | (with_reducible first | exact HB.out | apply below_alloc | apply pw_below_drewN | apply below_drew1) | exact HB.out)⟩⟩
      · rw [if_neg c5] at H
        have c5b0 : decide (1000 < (l0.length : Int)) = false := decide_eq_false c5
        have c5b1 : decide (1000 < l0.length) = false := decide_eq_false (by omega)
        clear c5
        (first | rw [c5b0] | (simp only [i64_w, i32_w]; rw [c5b0]) | skip)
        by_cases c6 : a1 < 0
        · rw [if_pos c6] at H
          have c6b0 : decide (a1 < 0) = true := decide_eq_true c6
          clear c6
          as_aux_lemma =>
            have H' := Aside0.mk H
            clear H
            go_wp2
            go_meet
            case rel => exact ⟨_, (true), (by first | rfl | (simp; done) | (simp [*]; done)), H', ⟨by first | omega | exact Nat.le_refl _⟩, ⟨by repeat (first | (with_reducible first | exact HB.out | apply below_alloc | apply pw_below_drewN | apply below_drew1) | exact HB.out)⟩⟩
        · rw [if_neg c6] at H
          have c6b0 : decide (a1 < 0) = false := decide_eq_false c6
          clear c6
          by_cases c7 : a1 > 2000
          · rw [if_pos c7] at H
            have c7b0 : decide (2000 < a1) = true := decide_eq_true c7
            clear c7
            as_aux_lemma =>
              have H' := Aside0.mk H
              clear H
              go_wp2
              go_meet
              case rel => exact ⟨_, (true), (by first | rfl | (simp; done) | (simp [*]; done)), H', ⟨by first | omega | exact Nat.le_refl _⟩, ⟨by repeat (first | (with_reducible first | exact HB.out | apply below_alloc | apply pw_below_drewN | apply below_drew1) | exact HB.out)⟩⟩
          · rw [if_neg c7] at H
            have c7b0 : decide (2000 < a1) = false := decide_eq_false c7
            clear c7
            as_aux_lemma =>
              have H' := Aside0.mk H
              clear H
              go_wp2
              go_meet
              case rel => exact ⟨_, (decide ((l0.length : Int) ≥ (wrap64 (a1 + 4)))), (by first | rfl | (simp; done) | (simp [*]; done)), H', ⟨by first | omega | exact Nat.le_refl _⟩, ⟨by repeat (first | (with_reducible first | exact HB.out | apply below_alloc | apply pw_below_drewN | apply below_drew1) | exact HB.out)⟩⟩
    case rest =>
      clear HC4
      try clear p2
      try clear c3
      try clear c3b0
      try clear c3b1
      try clear c4
      try clear c5
      try clear c5b0
      try clear c5b1
      try clear c6
      try clear c6b0
      try clear p6
      try clear c7
      try clear c7b0
      obtain ⟨kq, x31_3, rfl, HA, HJ3, HB⟩ := hcut
      cases kq with
      | zero => exact absurd HA.out (by simp [laws_FnDocEndBad.j0])
      | succ kj3 =>
        have H := HA.out
        clear HA
        simp only [laws_FnDocEndBad.j0] at H
        by_cases c8 : x31_3 = true
        · subst c8
          have H1 : (some true) = some r := by rw [if_pos rfl] at H; exact H
          clear H
          have H := H1
          clear H1
          as_aux_lemma =>
            obtain rfl := Option.some.inj H
            go_wp2
            go_ret
            exact ⟨by first | rfl | (simp [errW_none, errW_some] <;> rfl) | (simp [*, errW_none, errW_some] <;> rfl), by repeat (first | (with_reducible first | exact HB.out | apply below_alloc | apply pw_below_drewN | apply below_drew1) | exact HB.out)⟩
        · replace c8 := Bool.eq_false_iff.mpr c8
          subst c8
          have H1 : ((laws_docCopy.f l0).bind fun t111 => ((impl_DocumentEnd.f t111 a1).bind fun bt114 => ((laws_docCopy.f l0).bind fun t118 => ((impl_ArrayEnd.f t118 a1).bind fun bt121 => ((impl_DocumentEnd.f (([0, 0, 0, 0] : List Int)) 0).bind fun bt128 => (if bt114.2 = true then (some false) else (if bt121.2 = true then (some false) else (if bt128.2 = true then (if (strOfNums bt114.1).toList = (strOfNums l0).toList then (some ((strOfNums bt121.1).toList == (strOfNums l0).toList)) else (some false)) else (some false))))))))) = some r := by rw [if_neg (show ¬ (false = true) by decide)] at H; exact H
          clear H
          have H := H1
          clear H1
          replace H := Option.bind_eq_some_iff.mp H
          obtain ⟨t111, A90, H⟩ := H
          replace H : ((impl_DocumentEnd.f t111 a1).bind fun bt114 => ((laws_docCopy.f l0).bind fun t118 => ((impl_ArrayEnd.f t118 a1).bind fun bt121 => ((impl_DocumentEnd.f (([0, 0, 0, 0] : List Int)) 0).bind fun bt128 => (if bt114.2 = true then (some false) else (if bt121.2 = true then (some false) else (if bt128.2 = true then (if (strOfNums bt114.1).toList = (strOfNums l0).toList then (some ((strOfNums bt121.1).toList == (strOfNums l0).toList)) else (some false)) else (some false)))))))) = some r := H
          have A9 := Aside0.mk A90
          clear A90
          replace H := Option.bind_eq_some_iff.mp H
          obtain ⟨⟨t114, t115⟩, A100, H⟩ := H
          replace H : ((laws_docCopy.f l0).bind fun t118 => ((impl_ArrayEnd.f t118 a1).bind fun bt121 => ((impl_DocumentEnd.f (([0, 0, 0, 0] : List Int)) 0).bind fun bt128 => (if t115 = true then (some false) else (if bt121.2 = true then (some false) else (if bt128.2 = true then (if (strOfNums t114).toList = (strOfNums l0).toList then (some ((strOfNums bt121.1).toList == (strOfNums l0).toList)) else (some false)) else (some false))))))) = some r := H
          have A10 := Aside0.mk A100
          clear A100
          replace H := Option.bind_eq_some_iff.mp H
          obtain ⟨t118, A110, H⟩ := H
          replace H : ((impl_ArrayEnd.f t118 a1).bind fun bt121 => ((impl_DocumentEnd.f (([0, 0, 0, 0] : List Int)) 0).bind fun bt128 => (if t115 = true then (some false) else (if bt121.2 = true then (some false) else (if bt128.2 = true then (if (strOfNums t114).toList = (strOfNums l0).toList then (some ((strOfNums bt121.1).toList == (strOfNums l0).toList)) else (some false)) else (some false)))))) = some r := H
          have A11 := Aside0.mk A110
          clear A110
          replace H := Option.bind_eq_some_iff.mp H
          obtain ⟨⟨t121, t122⟩, A120, H⟩ := H
          replace H : ((impl_DocumentEnd.f (([0, 0, 0, 0] : List Int)) 0).bind fun bt128 => (if t115 = true then (some false) else (if t122 = true then (some false) else (if bt128.2 = true then (if (strOfNums t114).toList = (strOfNums l0).toList then (some ((strOfNums t121).toList == (strOfNums l0).toList)) else (some false)) else (some false))))) = some r := H
          have A12 := Aside0.mk A120
          clear A120
          obtain ⟨y125, hy125⟩ : ∃ y_ : List Int, y_ = (([0, 0, 0, 0] : List Int)) := ⟨_, rfl⟩
          replace H : ((impl_DocumentEnd.f y125 0).bind fun bt128 => (if t115 = true then (some false) else (if t122 = true then (some false) else (if bt128.2 = true then (if (strOfNums t114).toList = (strOfNums l0).toList then (some ((strOfNums t121).toList == (strOfNums l0).toList)) else (some false)) else (some false))))) = some r := by first | (rw [hy125]; with_reducible exact H) | (have H2_ := (Option.bind_some _ _).symm.trans H; rw [hy125]; with_reducible exact H2_) | (have H2_ := (Option.bind_some _ _).symm.trans H; with_reducible exact H2_) | with_reducible exact H | (rw [hy125]; exact H) | exact H
          have Ny125 := Aside0.mk hy125
          clear hy125
          replace H := Option.bind_eq_some_iff.mp H
          obtain ⟨⟨t128, t129⟩, A130, H⟩ := H
          replace H : (if t115 = true then (some false) else (if t122 = true then (some false) else (if t129 = true then (if (strOfNums t114).toList = (strOfNums l0).toList then (some ((strOfNums t121).toList == (strOfNums l0).toList)) else (some false)) else (some false)))) = some r := H
          have A13 := Aside0.mk A130
          clear A130
          by_cases c14 : t115 = true
          · subst c14
            have H1 : (some false) = some r := by rw [if_pos rfl] at H; exact H
            clear H
            have H := H1
            clear H1
            as_aux_lemma =>
              obtain rfl := Option.some.inj H
              go_wp2_with (first | ((with_reducible refine gate_callee (f := 12) rfl ?_); refine goesL_ (some 34) rfl rfl Try.func12 (by kernel_rfl) rfl #[.slice A0 l0.length c0] rfl (by (try simp only [List.map_toArray, List.map_cons, List.map_nil]); first | done | rfl | (simp only [List.length_drop, List.length_take]; rfl)) ?_; (with_reducible refine (laws_docCopy.calls _ _ l0 t111 _ ?side1 ?side2 A9.out).mono ?_); (case side1 => repeat (first | exact (Kd.C_below HR0.out HB.out) | (with_reducible refine Kd.C_alloc ?_ _) | (with_reducible refine Kd.C_drewN ?_ _) | (with_reducible refine Kd.C_drew ?_))); (case side2 => exact HC0.out); rintro e w15 ⟨v112, rfl, ho0, hb⟩; refine ⟨_, rfl, ?_⟩; have n0_ := Aside0.mk (Kd.R_lower ho0 (below_size (by repeat (first | (with_reducible first | exact HB.out | apply below_alloc | apply pw_below_drewN | apply below_drew1) | exact HB.out)))); have n1_ := Aside0.mk (below_step (by repeat (first | (with_reducible first | exact HB.out | apply below_alloc | apply pw_below_drewN | apply below_drew1) | exact HB.out)) hb); clear HB; have HO113 := n0_; have HB := n1_; clear n0_ n1_; (try clear hb); (try clear hb2); (try clear hk); (try clear hi); (try clear ho0); obtain ⟨Ao16, co16, eo16⟩ := Kd.R_slice HO113.out; subst eo16) | ((with_reducible refine gate_callee (f := 11) rfl ?_); refine goesL_ (some 36) rfl rfl Try.func11 (by kernel_rfl) rfl #[.slice Ao16 t111.length co16, .int .i64 a1] rfl (by (try simp only [List.map_toArray, List.map_cons, List.map_nil]); first | done | rfl | (simp only [List.length_drop, List.length_take]; rfl)) ?_; (with_reducible refine (impl_DocumentEnd.calls _ _ t111 a1 t114 true _ ?side1 ?side2 A10.out).mono ?_); (case side1 => repeat (first | exact (Kd.R_reads' HO113.out).2.2 | (with_reducible refine Kd.C_alloc ?_ _) | (with_reducible refine Kd.C_drewN ?_ _) | (with_reducible refine Kd.C_drew ?_))); (case side2 => exact (Kd.R_reads' HO113.out).2.1); rintro e w17 ⟨v116, rfl, ho0, hb⟩; refine ⟨_, rfl, ?_⟩; have n0_ := Aside0.mk (Kd.R_elder' (by (with_reducible repeat (first | apply Kd.R_alloc | apply Kd.R_drewN | apply Kd.R_drew)); exact HO113.out) (Kd.R_base ho0) hb); have n1_ := Aside0.mk (Kd.R_lower (Kd.R_new' ho0 (Kd.R_lt (by (with_reducible repeat (first | apply Kd.R_alloc | apply Kd.R_drewN | apply Kd.R_drew)); exact HO113.out))) (below_size (by repeat (first | (with_reducible first | exact HB.out | apply below_alloc | apply pw_below_drewN | apply below_drew1) | exact HB.out)))); have n2_ := Aside0.mk (below_step (by repeat (first | (with_reducible first | exact HB.out | apply below_alloc | apply pw_below_drewN | apply below_drew1) | exact HB.out)) hb); clear HO113; clear HB; have HO113 := n0_; have HO117 := n1_; have HB := n2_; clear n0_ n1_ n2_; (try clear hb); (try clear hb2); (try clear hk); (try clear hi); (try clear ho0)) | ((with_reducible refine gate_callee (f := 12) rfl ?_); refine goesL_ (some 41) rfl rfl Try.func12 (by kernel_rfl) rfl #[.slice A0 l0.length c0] rfl (by (try simp only [List.map_toArray, List.map_cons, List.map_nil]); first | done | rfl | (simp only [List.length_drop, List.length_take]; rfl)) ?_; (with_reducible refine (laws_docCopy.calls _ _ l0 t118 _ ?side1 ?side2 A11.out).mono ?_); (case side1 => repeat (first | exact (Kd.C_below HR0.out HB.out) | (with_reducible refine Kd.C_alloc ?_ _) | (with_reducible refine Kd.C_drewN ?_ _) | (with_reducible refine Kd.C_drew ?_))); (case side2 => exact HC0.out); rintro e w18 ⟨v119, rfl, ho0, hb⟩; refine ⟨_, rfl, ?_⟩; have n0_ := Aside0.mk (Kd.R_elder' (by (with_reducible repeat (first | apply Kd.R_alloc | apply Kd.R_drewN | apply Kd.R_drew)); exact HO113.out) (Kd.R_base ho0) hb); have n1_ := Aside0.mk (Kd.R_elder' (by (with_reducible repeat (first | apply Kd.R_alloc | apply Kd.R_drewN | apply Kd.R_drew)); exact HO117.out) (Kd.R_base ho0) hb); have n2_ := Aside0.mk (Kd.R_lower (Kd.R_new' (Kd.R_new' ho0 (Kd.R_lt (by (with_reducible repeat (first | apply Kd.R_alloc | apply Kd.R_drewN | apply Kd.R_drew)); exact HO113.out))) (Kd.R_lt (by (with_reducible repeat (first | apply Kd.R_alloc | apply Kd.R_drewN | apply Kd.R_drew)); exact HO117.out))) (below_size (by repeat (first | (with_reducible first | exact HB.out | apply below_alloc | apply pw_below_drewN | apply below_drew1) | exact HB.out)))); have n3_ := Aside0.mk (below_step (by repeat (first | (with_reducible first | exact HB.out | apply below_alloc | apply pw_below_drewN | apply below_drew1) | exact HB.out)) hb); clear HO113; clear HO117; clear HB; have HO113 := n0_; have HO117 := n1_; have HO120 := n2_; have HB := n3_; clear n0_ n1_ n2_ n3_; (try clear hb); (try clear hb2); (try clear hk); (try clear hi); (try clear ho0); obtain ⟨Ao19, co19, eo19⟩ := Kd.R_slice HO120.out; subst eo19) | ((with_reducible refine gate_callee (f := 13) rfl ?_); refine goesL_ (some 43) rfl rfl Try.func13 (by kernel_rfl) rfl #[.slice Ao19 t118.length co19, .int .i64 a1] rfl (by (try simp only [List.map_toArray, List.map_cons, List.map_nil]); first | done | rfl | (simp only [List.length_drop, List.length_take]; rfl)) ?_; (with_reducible refine (impl_ArrayEnd.calls _ _ t118 a1 t121 t122 _ ?side1 ?side2 A12.out).mono ?_); (case side1 => repeat (first | exact (Kd.R_reads' HO120.out).2.2 | (with_reducible refine Kd.C_alloc ?_ _) | (with_reducible refine Kd.C_drewN ?_ _) | (with_reducible refine Kd.C_drew ?_))); (case side2 => exact (Kd.R_reads' HO120.out).2.1); rintro e w20 ⟨v123, rfl, ho0, hb⟩; refine ⟨_, rfl, ?_⟩; have n0_ := Aside0.mk (Kd.R_elder' (by (with_reducible repeat (first | apply Kd.R_alloc | apply Kd.R_drewN | apply Kd.R_drew)); exact HO113.out) (Kd.R_base ho0) hb); have n1_ := Aside0.mk (Kd.R_elder' (by (with_reducible repeat (first | apply Kd.R_alloc | apply Kd.R_drewN | apply Kd.R_drew)); exact HO117.out) (Kd.R_base ho0) hb); have n2_ := Aside0.mk (Kd.R_elder' (by (with_reducible repeat (first | apply Kd.R_alloc | apply Kd.R_drewN | apply Kd.R_drew)); exact HO120.out) (Kd.R_base ho0) hb); have n3_ := Aside0.mk (Kd.R_lower (Kd.R_new' (Kd.R_new' (Kd.R_new' ho0 (Kd.R_lt (by (with_reducible repeat (first | apply Kd.R_alloc | apply Kd.R_drewN | apply Kd.R_drew)); exact HO113.out))) (Kd.R_lt (by (with_reducible repeat (first | apply Kd.R_alloc | apply Kd.R_drewN | apply Kd.R_drew)); exact HO117.out))) (Kd.R_lt (by (with_reducible repeat (first | apply Kd.R_alloc | apply Kd.R_drewN | apply Kd.R_drew)); exact HO120.out))) (below_size (by repeat (first | (with_reducible first | exact HB.out | apply below_alloc | apply pw_below_drewN | apply below_drew1) | exact HB.out)))); have n4_ := Aside0.mk (below_step (by repeat (first | (with_reducible first | exact HB.out | apply below_alloc | apply pw_below_drewN | apply below_drew1) | exact HB.out)) hb); clear HO113; clear HO117; clear HO120; clear HB; have HO113 := n0_; have HO117 := n1_; have HO120 := n2_; have HO124 := n3_; have HB := n4_; clear n0_ n1_ n2_ n3_ n4_; (try clear hb); (try clear hb2); (try clear hk); (try clear hi); (try clear ho0)) | ((with_reducible refine gate_dst (N := 47) rfl ?_); (try (refine gate_guard (by rfl) ?_; dsimp only)); refine Kd.R_lit (Kd.int .u8) _ 5 ?hg (N := 47) ?hd (xs := ([0, 0, 0, 0] : List Int)) (inner := [.int .u8 0, .int .u8 0, .int .u8 0, .int .u8 0]) (ok := fun _ => True) (okp := fun _ => True) ?hr ?hp (fun _ hk => hk) trivial (Below.refl _ _) (Nat.le_refl _) (by simp) ?_; (case hd => rfl); (case hg => rfl); (case hr => first | (go_simp; done) | (go_simp; rfl)); (case hp => exact (Reps.one (show Kd.M (Kd.int .u8) _ _ _ 0 [.int .u8 0] from rfl) (Reps.one (show Kd.M (Kd.int .u8) _ _ _ 0 [.int .u8 0] from rfl) (Reps.one (show Kd.M (Kd.int .u8) _ _ _ 0 [.int .u8 0] from rfl) (Reps.one (show Kd.M (Kd.int .u8) _ _ _ 0 [.int .u8 0] from rfl) (Reps.none _ _)))))); intro v126 w21 ho22 hb hg_ hnew_; clear hg_ hnew_; (first | rw [← Ny125.out] at ho22 | (simp only [Int.reduceToNat] at ho22; rw [← Ny125.out] at ho22)); have n0_ := Aside0.mk (Kd.R_elder' (by (with_reducible repeat (first | apply Kd.R_alloc | apply Kd.R_drewN | apply Kd.R_drew)); exact HO113.out) (Kd.R_base ho22) hb); have n1_ := Aside0.mk (Kd.R_elder' (by (with_reducible repeat (first | apply Kd.R_alloc | apply Kd.R_drewN | apply Kd.R_drew)); exact HO117.out) (Kd.R_base ho22) hb); have n2_ := Aside0.mk (Kd.R_elder' (by (with_reducible repeat (first | apply Kd.R_alloc | apply Kd.R_drewN | apply Kd.R_drew)); exact HO120.out) (Kd.R_base ho22) hb); have n3_ := Aside0.mk (Kd.R_elder' (by (with_reducible repeat (first | apply Kd.R_alloc | apply Kd.R_drewN | apply Kd.R_drew)); exact HO124.out) (Kd.R_base ho22) hb); have n4_ := Aside0.mk (Kd.R_lower (Kd.R_new' (Kd.R_new' (Kd.R_new' (Kd.R_new' ho22 (Kd.R_lt (by (with_reducible repeat (first | apply Kd.R_alloc | apply Kd.R_drewN | apply Kd.R_drew)); exact HO113.out))) (Kd.R_lt (by (with_reducible repeat (first | apply Kd.R_alloc | apply Kd.R_drewN | apply Kd.R_drew)); exact HO117.out))) (Kd.R_lt (by (with_reducible repeat (first | apply Kd.R_alloc | apply Kd.R_drewN | apply Kd.R_drew)); exact HO120.out))) (Kd.R_lt (by (with_reducible repeat (first | apply Kd.R_alloc | apply Kd.R_drewN | apply Kd.R_drew)); exact HO124.out))) (below_size (by repeat (first | (with_reducible first | exact HB.out | apply below_alloc | apply pw_below_drewN | apply below_drew1) | exact HB.out)))); have n5_ := Aside0.mk (below_step (by repeat (first | (with_reducible first | exact HB.out | apply below_alloc | apply pw_below_drewN | apply below_drew1) | exact HB.out)) hb); clear HO113; clear HO117; clear HO120; clear HO124; clear HB; have HO113 := n0_; have HO117 := n1_; have HO120 := n2_; have HO124 := n3_; have HO127 := n4_; have HB := n5_; clear n0_ n1_ n2_ n3_ n4_ n5_; clear hb ho22; obtain ⟨Ao23, co23, eo23⟩ := Kd.R_slice HO127.out; subst eo23) | ((with_reducible refine gate_callee (f := 11) rfl ?_); refine goesL_ (some 48) rfl rfl Try.func11 (by kernel_rfl) rfl #[.slice Ao23 y125.length co23, .int .i64 0] rfl (by (try simp only [List.map_toArray, List.map_cons, List.map_nil]); first | done | rfl | (simp only [List.length_drop, List.length_take]; rfl)) ?_; (with_reducible refine (impl_DocumentEnd.calls _ _ y125 0 t128 t129 _ ?side1 ?side2 A13.out).mono ?_); (case side1 => repeat (first | exact (Kd.R_reads' HO127.out).2.2 | (with_reducible refine Kd.C_alloc ?_ _) | (with_reducible refine Kd.C_drewN ?_ _) | (with_reducible refine Kd.C_drew ?_))); (case side2 => exact (Kd.R_reads' HO127.out).2.1); rintro e w24 ⟨v130, rfl, ho0, hb⟩; refine ⟨_, rfl, ?_⟩; have n0_ := Aside0.mk (Kd.R_elder' (by (with_reducible repeat (first | apply Kd.R_alloc | apply Kd.R_drewN | apply Kd.R_drew)); exact HO113.out) (Kd.R_base ho0) hb); have n1_ := Aside0.mk (Kd.R_elder' (by (with_reducible repeat (first | apply Kd.R_alloc | apply Kd.R_drewN | apply Kd.R_drew)); exact HO117.out) (Kd.R_base ho0) hb); have n2_ := Aside0.mk (Kd.R_elder' (by (with_reducible repeat (first | apply Kd.R_alloc | apply Kd.R_drewN | apply Kd.R_drew)); exact HO120.out) (Kd.R_base ho0) hb); have n3_ := Aside0.mk (Kd.R_elder' (by (with_reducible repeat (first | apply Kd.R_alloc | apply Kd.R_drewN | apply Kd.R_drew)); exact HO124.out) (Kd.R_base ho0) hb); have n4_ := Aside0.mk (Kd.R_elder' (by (with_reducible repeat (first | apply Kd.R_alloc | apply Kd.R_drewN | apply Kd.R_drew)); exact HO127.out) (Kd.R_base ho0) hb); have n5_ := Aside0.mk (Kd.R_lower (Kd.R_new' (Kd.R_new' (Kd.R_new' (Kd.R_new' (Kd.R_new' ho0 (Kd.R_lt (by (with_reducible repeat (first | apply Kd.R_alloc | apply Kd.R_drewN | apply Kd.R_drew)); exact HO113.out))) (Kd.R_lt (by (with_reducible repeat (first | apply Kd.R_alloc | apply Kd.R_drewN | apply Kd.R_drew)); exact HO117.out))) (Kd.R_lt (by (with_reducible repeat (first | apply Kd.R_alloc | apply Kd.R_drewN | apply Kd.R_drew)); exact HO120.out))) (Kd.R_lt (by (with_reducible repeat (first | apply Kd.R_alloc | apply Kd.R_drewN | apply Kd.R_drew)); exact HO124.out))) (Kd.R_lt (by (with_reducible repeat (first | apply Kd.R_alloc | apply Kd.R_drewN | apply Kd.R_drew)); exact HO127.out))) (below_size (by repeat (first | (with_reducible first | exact HB.out | apply below_alloc | apply pw_below_drewN | apply below_drew1) | exact HB.out)))); have n6_ := Aside0.mk (below_step (by repeat (first | (with_reducible first | exact HB.out | apply below_alloc | apply pw_below_drewN | apply below_drew1) | exact HB.out)) hb); clear HO113; clear HO117; clear HO120; clear HO124; clear HO127; clear HB; have HO113 := n0_; have HO117 := n1_; have HO120 := n2_; have HO124 := n3_; have HO127 := n4_; have HO131 := n5_; have HB := n6_; clear n0_ n1_ n2_ n3_ n4_ n5_ n6_; (try clear hb); (try clear hb2); (try clear hk); (try clear hi); (try clear ho0)))
              go_ret
              exact ⟨by first | rfl | (simp [errW_none, errW_some] <;> rfl) | (simp [*, errW_none, errW_some] <;> rfl), by repeat (first | (with_reducible first | exact HB.out | apply below_alloc | apply pw_below_drewN | apply below_drew1) | exact HB.out)⟩
          · replace c14 := Bool.eq_false_iff.mpr c14
            subst c14
            have H1 : (if t122 = true then (some false) else (if t129 = true then (if (strOfNums t114).toList = (strOfNums l0).toList then (some ((strOfNums t121).toList == (strOfNums l0).toList)) else (some false)) else (some false))) = some r := by rw [if_neg (show ¬ (false = true) by decide)] at H; exact H
            clear H
            have H := H1
            clear H1
            by_cases c25 : t122 = true
            · subst c25
              have H1 : (some false) = some r := by rw [if_pos rfl] at H; exact H
              clear H
              have H := H1
              clear H1
              as_aux_lemma =>
                obtain rfl := Option.some.inj H
                go_wp2_with (first | ((with_reducible refine gate_callee (f := 12) rfl ?_); refine goesL_ (some 34) rfl rfl Try.func12 (by kernel_rfl) rfl #[.slice A0 l0.length c0] rfl (by (try simp only [List.map_toArray, List.map_cons, List.map_nil]); first | done | rfl | (simp only [List.length_drop, List.length_take]; rfl)) ?_; (with_reducible refine (laws_docCopy.calls _ _ l0 t111 _ ?side1 ?side2 A9.out).mono ?_); (case side1 => repeat (first | exact (Kd.C_below HR0.out HB.out) | (with_reducible refine Kd.C_alloc ?_ _) | (with_reducible refine Kd.C_drewN ?_ _) | (with_reducible refine Kd.C_drew ?_))); (case side2 => exact HC0.out); rintro e w26 ⟨v112, rfl, ho0, hb⟩; refine ⟨_, rfl, ?_⟩; have n0_ := Aside0.mk (Kd.R_lower ho0 (below_size (by repeat (first | (with_reducible first | exact HB.out | apply below_alloc | apply pw_below_drewN | apply below_drew1) | exact HB.out)))); have n1_ := Aside0.mk (below_step (by repeat (first | (with_reducible first | exact HB.out | apply below_alloc | apply pw_below_drewN | apply below_drew1) | exact HB.out)) hb); clear HB; have HO113 := n0_; have HB := n1_; clear n0_ n1_; (try clear hb); (try clear hb2); (try clear hk); (try clear hi); (try clear ho0); obtain ⟨Ao27, co27, eo27⟩ := Kd.R_slice HO113.out; subst eo27) | ((with_reducible refine gate_callee (f := 11) rfl ?_); refine goesL_ (some 36) rfl rfl Try.func11 (by kernel_rfl) rfl #[.slice Ao27 t111.length co27, .int .i64 a1] rfl (by (try simp only [List.map_toArray, List.map_cons, List.map_nil]); first | done | rfl | (simp only [List.length_drop, List.length_take]; rfl)) ?_; (with_reducible refine (impl_DocumentEnd.calls _ _ t111 a1 t114 false _ ?side1 ?side2 A10.out).mono ?_); (case side1 => repeat (first | exact (Kd.R_reads' HO113.out).2.2 | (with_reducible refine Kd.C_alloc ?_ _) | (with_reducible refine Kd.C_drewN ?_ _) | (with_reducible refine Kd.C_drew ?_))); (case side2 => exact (Kd.R_reads' HO113.out).2.1); rintro e w28 ⟨v116, rfl, ho0, hb⟩; refine ⟨_, rfl, ?_⟩; have n0_ := Aside0.mk (Kd.R_elder' (by (with_reducible repeat (first | apply Kd.R_alloc | apply Kd.R_drewN | apply Kd.R_drew)); exact HO113.out) (Kd.R_base ho0) hb); have n1_ := Aside0.mk (Kd.R_lower (Kd.R_new' ho0 (Kd.R_lt (by (with_reducible repeat (first | apply Kd.R_alloc | apply Kd.R_drewN | apply Kd.R_drew)); exact HO113.out))) (below_size (by repeat (first | (with_reducible first | exact HB.out | apply below_alloc | apply pw_below_drewN | apply below_drew1) | exact HB.out)))); have n2_ := Aside0.mk (below_step (by repeat (first | (with_reducible first | exact HB.out | apply below_alloc | apply pw_below_drewN | apply below_drew1) | exact HB.out)) hb); clear HO113; clear HB; have HO113 := n0_; have HO117 := n1_; have HB := n2_; clear n0_ n1_ n2_; (try clear hb); (try clear hb2); (try clear hk); (try clear hi); (try clear ho0)) | ((with_reducible refine gate_callee (f := 12) rfl ?_); refine goesL_ (some 41) rfl rfl Try.func12 (by kernel_rfl) rfl #[.slice A0 l0.length c0] rfl (by (try simp only [List.map_toArray, List.map_cons, List.map_nil]); first | done | rfl | (simp only [List.length_drop, List.length_take]; rfl)) ?_; (with_reducible refine (laws_docCopy.calls _ _ l0 t118 _ ?side1 ?side2 A11.out).mono ?_); (case side1 => repeat (first | exact (Kd.C_below HR0.out HB.out) | (with_reducible refine Kd.C_alloc ?_ _) | (with_reducible refine Kd.C_drewN ?_ _) | (with_reducible refine Kd.C_drew ?_))); (case side2 => exact HC0.out); rintro e w29 ⟨v119, rfl, ho0, hb⟩; refine ⟨_, rfl, ?_⟩; have n0_ := Aside0.mk (Kd.R_elder' (by (with_reducible repeat (first | apply Kd.R_alloc | apply Kd.R_drewN | apply Kd.R_drew)); exact HO113.out) (Kd.R_base ho0) hb); have n1_ := Aside0.mk (Kd.R_elder' (by (with_reducible repeat (first | apply Kd.R_alloc | apply Kd.R_drewN | apply Kd.R_drew)); exact HO117.out) (Kd.R_base ho0) hb); have n2_ := Aside0.mk (Kd.R_lower (Kd.R_new' (Kd.R_new' ho0 (Kd.R_lt (by (with_reducible repeat (first | apply Kd.R_alloc | apply Kd.R_drewN | apply Kd.R_drew)); exact HO113.out))) (Kd.R_lt (by (with_reducible repeat (first | apply Kd.R_alloc | apply Kd.R_drewN | apply Kd.R_drew)); exact HO117.out))) (below_size (by repeat (first | (with_reducible first | exact HB.out | apply below_alloc | apply pw_below_drewN | apply below_drew1) | exact HB.out)))); have n3_ := Aside0.mk (below_step (by repeat (first | (with_reducible first | exact HB.out | apply below_alloc | apply pw_below_drewN | apply below_drew1) | exact HB.out)) hb); clear HO113; clear HO117; clear HB; have HO113 := n0_; have HO117 := n1_; have HO120 := n2_; have HB := n3_; clear n0_ n1_ n2_ n3_; (try clear hb); (try clear hb2); (try clear hk); (try clear hi); (try clear ho0); obtain ⟨Ao30, co30, eo30⟩ := Kd.R_slice HO120.out; subst eo30) | ((with_reducible refine gate_callee (f := 13) rfl ?_); refine goesL_ (some 43) rfl rfl Try.func13 (by kernel_rfl) rfl #[.slice Ao30 t118.length co30, .int .i64 a1] rfl (by (try simp only [List.map_toArray, List.map_cons, List.map_nil]); first | done | rfl | (simp only [List.length_drop, List.length_take]; rfl)) ?_; (with_reducible refine (impl_ArrayEnd.calls _ _ t118 a1 t121 true _ ?side1 ?side2 A12.out).mono ?_); (case side1 => repeat (first | exact (Kd.R_reads' HO120.out).2.2 | (with_reducible refine Kd.C_alloc ?_ _) | (with_reducible refine Kd.C_drewN ?_ _) | (with_reducible refine Kd.C_drew ?_))); (case side2 => exact (Kd.R_reads' HO120.out).2.1); rintro e w31 ⟨v123, rfl, ho0, hb⟩; refine ⟨_, rfl, ?_⟩; have n0_ := Aside0.mk (Kd.R_elder' (by (with_reducible repeat (first | apply Kd.R_alloc | apply Kd.R_drewN | apply Kd.R_drew)); exact HO113.out) (Kd.R_base ho0) hb); have n1_ := Aside0.mk (Kd.R_elder' (by (with_reducible repeat (first | apply Kd.R_alloc | apply Kd.R_drewN | apply Kd.R_drew)); exact HO117.out) (Kd.R_base ho0) hb); have n2_ := Aside0.mk (Kd.R_elder' (by (with_reducible repeat (first | apply Kd.R_alloc | apply Kd.R_drewN | apply Kd.R_drew)); exact HO120.out) (Kd.R_base ho0) hb); have n3_ := Aside0.mk (Kd.R_lower (Kd.R_new' (Kd.R_new' (Kd.R_new' ho0 (Kd.R_lt (by (with_reducible repeat (first | apply Kd.R_alloc | apply Kd.R_drewN | apply Kd.R_drew)); exact HO113.out))) (Kd.R_lt (by (with_reducible repeat (first | apply Kd.R_alloc | apply Kd.R_drewN | apply Kd.R_drew)); exact HO117.out))) (Kd.R_lt (by (with_reducible repeat (first | apply Kd.R_alloc | apply Kd.R_drewN | apply Kd.R_drew)); exact HO120.out))) (below_size (by repeat (first | (with_reducible first | exact HB.out | apply below_alloc | apply pw_below_drewN | apply below_drew1) | exact HB.out)))); have n4_ := Aside0.mk (below_step (by repeat (first | (with_reducible first | exact HB.out | apply below_alloc | apply pw_below_drewN | apply below_drew1) | exact HB.out)) hb); clear HO113; clear HO117; clear HO120; clear HB; have HO113 := n0_; have HO117 := n1_; have HO120 := n2_; have HO124 := n3_; have HB := n4_; clear n0_ n1_ n2_ n3_ n4_; (try clear hb); (try clear hb2); (try clear hk); (try clear hi); (try clear ho0)) | ((with_reducible refine gate_dst (N := 47) rfl ?_); (try (refine gate_guard (by rfl) ?_; dsimp only)); refine Kd.R_lit (Kd.int .u8) _ 5 ?hg (N := 47) ?hd (xs := ([0, 0, 0, 0] : List Int)) (inner := [.int .u8 0, .int .u8 0, .int .u8 0, .int .u8 0]) (ok := fun _ => True) (okp := fun _ => True) ?hr ?hp (fun _ hk => hk) trivial (Below.refl _ _) (Nat.le_refl _) (by simp) ?_; (case hd => rfl); (case hg => rfl); (case hr => first | (go_simp; done) | (go_simp; rfl)); (case hp => exact (Reps.one (show Kd.M (Kd.int .u8) _ _ _ 0 [.int .u8 0] from rfl) (Reps.one (show Kd.M (Kd.int .u8) _ _ _ 0 [.int .u8 0] from rfl) (Reps.one (show Kd.M (Kd.int .u8) _ _ _ 0 [.int .u8 0] from rfl) (Reps.one (show Kd.M (Kd.int .u8) _ _ _ 0 [.int .u8 0] from rfl) (Reps.none _ _)))))); intro v126 w32 ho33 hb hg_ hnew_; clear hg_ hnew_; (first | rw [← Ny125.out] at ho33 | (simp only [Int.reduceToNat] at ho33; rw [← Ny125.out] at ho33)); have n0_ := Aside0.mk (Kd.R_elder' (by (with_reducible repeat (first | apply Kd.R_alloc | apply Kd.R_drewN | apply Kd.R_drew)); exact HO113.out) (Kd.R_base ho33) hb); have n1_ := Aside0.mk (Kd.R_elder' (by (with_reducible repeat (first | apply Kd.R_alloc | apply Kd.R_drewN | apply Kd.R_drew)); exact HO117.out) (Kd.R_base ho33) hb); have n2_ := Aside0.mk (Kd.R_elder' (by (with_reducible repeat (first | apply Kd.R_alloc | apply Kd.R_drewN | apply Kd.R_drew)); exact HO120.out) (Kd.R_base ho33) hb); have n3_ := Aside0.mk (Kd.R_elder' (by (with_reducible repeat (first | apply Kd.R_alloc | apply Kd.R_drewN | apply Kd.R_drew)); exact HO124.out) (Kd.R_base ho33) hb); have n4_ := Aside0.mk (Kd.R_lower (Kd.R_new' (Kd.R_new' (Kd.R_new' (Kd.R_new' ho33 (Kd.R_lt (by (with_reducible repeat (first | apply Kd.R_alloc | apply Kd.R_drewN | apply Kd.R_drew)); exact HO113.out))) (Kd.R_lt (by (with_reducible repeat (first | apply Kd.R_alloc | apply Kd.R_drewN | apply Kd.R_drew)); exact HO117.out))) (Kd.R_lt (by (with_reducible repeat (first | apply Kd.R_alloc | apply Kd.R_drewN | apply Kd.R_drew)); exact HO120.out))) (Kd.R_lt (by (with_reducible repeat (first | apply Kd.R_alloc | apply Kd.R_drewN | apply Kd.R_drew)); exact HO124.out))) (below_size (by repeat (first | (with_reducible first | exact HB.out | apply below_alloc | apply pw_below_drewN | apply below_drew1) | exact HB.out)))); have n5_ := Aside0.mk (below_step (by repeat (first | (with_reducible first | exact HB.out | apply below_alloc | apply pw_below_drewN | apply below_drew1) | exact HB.out)) hb); clear HO113; clear HO117; clear HO120; clear HO124; clear HB; have HO113 := n0_; have HO117 := n1_; have HO120 := n2_; have HO124 := n3_; have HO127 := n4_; have HB := n5_; clear n0_ n1_ n2_ n3_ n4_ n5_; clear hb ho33; obtain ⟨Ao34, co34, eo34⟩ := Kd.R_slice HO127.out; subst eo34) | ((with_reducible refine gate_callee (f := 11) rfl ?_); refine goesL_ (some 48) rfl rfl Try.func11 (by kernel_rfl) rfl #[.slice Ao34 y125.length co34, .int .i64 0] rfl (by (try simp only [List.map_toArray, List.map_cons, List.map_nil]); first | done | rfl | (simp only [List.length_drop, List.length_take]; rfl)) ?_; (with_reducible refine (impl_DocumentEnd.calls _ _ y125 0 t128 t129 _ ?side1 ?side2 A13.out).mono ?_); (case side1 => repeat (first | exact (Kd.R_reads' HO127.out).2.2 | (with_reducible refine Kd.C_alloc ?_ _) | (with_reducible refine Kd.C_drewN ?_ _) | (with_reducible refine Kd.C_drew ?_))); (case side2 => exact (Kd.R_reads' HO127.out).2.1); rintro e w35 ⟨v130, rfl, ho0, hb⟩; refine ⟨_, rfl, ?_⟩; have n0_ := Aside0.mk (Kd.R_elder' (by (with_reducible repeat (first | apply Kd.R_alloc | apply Kd.R_drewN | apply Kd.R_drew)); exact HO113.out) (Kd.R_base ho0) hb); have n1_ := Aside0.mk (Kd.R_elder' (by (with_reducible repeat (first | apply Kd.R_alloc | apply Kd.R_drewN | apply Kd.R_drew)); exact HO117.out) (Kd.R_base ho0) hb); have n2_ := Aside0.mk (Kd.R_elder' (by (with_reducible repeat (first | apply Kd.R_alloc | apply Kd.R_drewN | apply Kd.R_drew)); exact HO120.out) (Kd.R_base ho0) hb); have n3_ := Aside0.mk (Kd.R_elder' (by (with_reducible repeat (first | apply Kd.R_alloc | apply Kd.R_drewN | apply Kd.R_drew)); exact HO124.out) (Kd.R_base ho0) hb); have n4_ := Aside0.mk (Kd.R_elder' (by (with_reducible repeat (first | apply Kd.R_alloc | apply Kd.R_drewN | apply Kd.R_drew)); exact HO127.out) (Kd.R_base ho0) hb); have n5_ := Aside0.mk (Kd.R_lower (Kd.R_new' (Kd.R_new' (Kd.R_new' (Kd.R_new' (Kd.R_new' ho0 (Kd.R_lt (by (with_reducible repeat (first | apply Kd.R_alloc | apply Kd.R_drewN | apply Kd.R_drew)); exact HO113.out))) (Kd.R_lt (by (with_reducible repeat (first | apply Kd.R_alloc | apply Kd.R_drewN | apply Kd.R_drew)); exact HO117.out))) (Kd.R_lt (by (with_reducible repeat (first | apply Kd.R_alloc | apply Kd.R_drewN | apply Kd.R_drew)); exact HO120.out))) (Kd.R_lt (by (with_reducible repeat (first | apply Kd.R_alloc | apply Kd.R_drewN | apply Kd.R_drew)); exact HO124.out))) (Kd.R_lt (by (with_reducible repeat (first | apply Kd.R_alloc | apply Kd.R_drewN | apply Kd.R_drew)); exact HO127.out))) (below_size (by repeat (first | (with_reducible first | exact HB.out | apply below_alloc | apply pw_below_drewN | apply below_drew1) | exact HB.out)))); have n6_ := Aside0.mk (below_step (by repeat (first | (with_reducible first | exact HB.out | apply below_alloc | apply pw_below_drewN | apply below_drew1) | exact HB.out)) hb); clear HO113; clear HO117; clear HO120; clear HO124; clear HO127; clear HB; have HO113 := n0_; have HO117 := n1_; have HO120 := n2_; have HO124 := n3_; have HO127 := n4_; have HO131 := n5_; have HB := n6_; clear n0_ n1_ n2_ n3_ n4_ n5_ n6_; (try clear hb); (try clear hb2); (try clear hk); (try clear hi); (try clear ho0)))
                go_ret
                exact ⟨by first | rfl | (simp [errW_none, errW_some] <;> rfl) | (simp [*, errW_none, errW_some] <;> rfl), by repeat (first | (with_reducible first | exact HB.out | apply below_alloc | apply pw_below_drewN | apply below_drew1) | exact HB.out)⟩
            · replace c25 := Bool.eq_false_iff.mpr c25
              subst c25
              have H1 : (if t129 = true then (if (strOfNums t114).toList = (strOfNums l0).toList then (some ((strOfNums t121).toList == (strOfNums l0).toList)) else (some false)) else (some false)) = some r := by rw [if_neg (show ¬ (false = true) by decide)] at H; exact H
              clear H
              have H := H1
              clear H1
              by_cases c36 : t129 = true
              · subst c36
                have H1 : (if (strOfNums t114).toList = (strOfNums l0).toList then (some ((strOfNums t121).toList == (strOfNums l0).toList)) else (some false)) = some r := by rw [if_pos rfl] at H; exact H
                clear H
                have H := H1
                clear H1
                by_cases c37 : (strOfNums t114).toList = (strOfNums l0).toList
                · rw [if_pos c37] at H
                  have c37b0 : ((strOfNums t114).toList == (strOfNums l0).toList) = true := beq_iff_eq.mpr c37
                  have c37b1 : ((strOfNums t114).toList != (strOfNums l0).toList) = false := bne_eq_false_iff_eq.mpr c37
                  clear c37
                  as_aux_lemma =>
                    obtain rfl := Option.some.inj H
                    go_wp2_with (first | ((with_reducible refine gate_callee (f := 12) rfl ?_); refine goesL_ (some 34) rfl rfl Try.func12 (by kernel_rfl) rfl #[.slice A0 l0.length c0] rfl (by (try simp only [List.map_toArray, List.map_cons, List.map_nil]); first | done | rfl | (simp only [List.length_drop, List.length_take]; rfl)) ?_; (with_reducible refine (laws_docCopy.calls _ _ l0 t111 _ ?side1 ?side2 A9.out).mono ?_); (case side1 => repeat (first | exact (Kd.C_below HR0.out HB.out) | (with_reducible refine Kd.C_alloc ?_ _) | (with_reducible refine Kd.C_drewN ?_ _) | (with_reducible refine Kd.C_drew ?_))); (case side2 => exact HC0.out); rintro e w38 ⟨v112, rfl, ho0, hb⟩; refine ⟨_, rfl, ?_⟩; have n0_ := Aside0.mk (Kd.R_lower ho0 (below_size (by repeat (first | (with_reducible first | exact HB.out | apply below_alloc | apply pw_below_drewN | apply below_drew1) | exact HB.out)))); have n1_ := Aside0.mk (below_step (by repeat (first | (with_reducible first | exact HB.out | apply below_alloc | apply pw_below_drewN | apply below_drew1) | exact HB.out)) hb); clear HB; have HO113 := n0_; have HB := n1_; clear n0_ n1_; (try clear hb); (try clear hb2); (try clear hk); (try clear hi); (try clear ho0); obtain ⟨Ao39, co39, eo39⟩ := Kd.R_slice HO113.out; subst eo39) | ((with_reducible refine gate_callee (f := 11) rfl ?_); refine goesL_ (some 36) rfl rfl Try.func11 (by kernel_rfl) rfl #[.slice Ao39 t111.length co39, .int .i64 a1] rfl (by (try simp only [List.map_toArray, List.map_cons, List.map_nil]); first | done | rfl | (simp only [List.length_drop, List.length_take]; rfl)) ?_; (with_reducible refine (impl_DocumentEnd.calls _ _ t111 a1 t114 false _ ?side1 ?side2 A10.out).mono ?_); (case side1 => repeat (first | exact (Kd.R_reads' HO113.out).2.2 | (with_reducible refine Kd.C_alloc ?_ _) | (with_reducible refine Kd.C_drewN ?_ _) | (with_reducible refine Kd.C_drew ?_))); (case side2 => exact (Kd.R_reads' HO113.out).2.1); rintro e w40 ⟨v116, rfl, ho0, hb⟩; refine ⟨_, rfl, ?_⟩; have n0_ := Aside0.mk (Kd.R_elder' (by (with_reducible repeat (first | apply Kd.R_alloc | apply Kd.R_drewN | apply Kd.R_drew)); exact HO113.out) (Kd.R_base ho0) hb); have n1_ := Aside0.mk (Kd.R_lower (Kd.R_new' ho0 (Kd.R_lt (by (with_reducible repeat (first | apply Kd.R_alloc | apply Kd.R_drewN | apply Kd.R_drew)); exact HO113.out))) (below_size (by repeat (first | (with_reducible first | exact HB.out | apply below_alloc | apply pw_below_drewN | apply below_drew1) | exact HB.out)))); have n2_ := Aside0.mk (below_step (by repeat (first | (with_reducible first | exact HB.out | apply below_alloc | apply pw_below_drewN | apply below_drew1) | exact HB.out)) hb); clear HO113; clear HB; have HO113 := n0_; have HO117 := n1_; have HB := n2_; clear n0_ n1_ n2_; (try clear hb); (try clear hb2); (try clear hk); (try clear hi); (try clear ho0)) | ((with_reducible refine gate_callee (f := 12) rfl ?_); refine goesL_ (some 41) rfl rfl Try.func12 (by kernel_rfl) rfl #[.slice A0 l0.length c0] rfl (by (try simp only [List.map_toArray, List.map_cons, List.map_nil]); first | done | rfl | (simp only [List.length_drop, List.length_take]; rfl)) ?_; (with_reducible refine (laws_docCopy.calls _ _ l0 t118 _ ?side1 ?side2 A11.out).mono ?_); (case side1 => repeat (first | exact (Kd.C_below HR0.out HB.out) | (with_reducible refine Kd.C_alloc ?_ _) | (with_reducible refine Kd.C_drewN ?_ _) | (with_reducible refine Kd.C_drew ?_))); (case side2 => exact HC0.out); rintro e w41 ⟨v119, rfl, ho0, hb⟩; refine ⟨_, rfl, ?_⟩; have n0_ := Aside0.mk (Kd.R_elder' (by (with_reducible repeat (first | apply Kd.R_alloc | apply Kd.R_drewN | apply Kd.R_drew)); exact HO113.out) (Kd.R_base ho0) hb); have n1_ := Aside0.mk (Kd.R_elder' (by (with_reducible repeat (first | apply Kd.R_alloc | apply Kd.R_drewN | apply Kd.R_drew)); exact HO117.out) (Kd.R_base ho0) hb); have n2_ := Aside0.mk (Kd.R_lower (Kd.R_new' (Kd.R_new' ho0 (Kd.R_lt (by (with_reducible repeat (first | apply Kd.R_alloc | apply Kd.R_drewN | apply Kd.R_drew)); exact HO113.out))) (Kd.R_lt (by (with_reducible repeat (first | apply Kd.R_alloc | apply Kd.R_drewN | apply Kd.R_drew)); exact HO117.out))) (below_size (by repeat (first | (with_reducible first | exact HB.out | apply below_alloc | apply pw_below_drewN | apply below_drew1) | exact HB.out)))); have n3_ := Aside0.mk (below_step (by repeat (first | (with_reducible first | exact HB.out | apply below_alloc | apply pw_below_drewN | apply below_drew1) | exact HB.out)) hb); clear HO113; clear HO117; clear HB; have HO113 := n0_; have HO117 := n1_; have HO120 := n2_; have HB := n3_; clear n0_ n1_ n2_ n3_; (try clear hb); (try clear hb2); (try clear hk); (try clear hi); (try clear ho0); obtain ⟨Ao42, co42, eo42⟩ := Kd.R_slice HO120.out; subst eo42) | ((with_reducible refine gate_callee (f := 13) rfl ?_); refine goesL_ (some 43) rfl rfl Try.func13 (by kernel_rfl) rfl #[.slice Ao42 t118.length co42, .int .i64 a1] rfl (by (try simp only [List.map_toArray, List.map_cons, List.map_nil]); first | done | rfl | (simp only [List.length_drop, List.length_take]; rfl)) ?_; (with_reducible refine (impl_ArrayEnd.calls _ _ t118 a1 t121 false _ ?side1 ?side2 A12.out).mono ?_); (case side1 => repeat (first | exact (Kd.R_reads' HO120.out).2.2 | (with_reducible refine Kd.C_alloc ?_ _) | (with_reducible refine Kd.C_drewN ?_ _) | (with_reducible refine Kd.C_drew ?_))); (case side2 => exact (Kd.R_reads' HO120.out).2.1); rintro e w43 ⟨v123, rfl, ho0, hb⟩; refine ⟨_, rfl, ?_⟩; have n0_ := Aside0.mk (Kd.R_elder' (by (with_reducible repeat (first | apply Kd.R_alloc | apply Kd.R_drewN | apply Kd.R_drew)); exact HO113.out) (Kd.R_base ho0) hb); have n1_ := Aside0.mk (Kd.R_elder' (by (with_reducible repeat (first | apply Kd.R_alloc | apply Kd.R_drewN | apply Kd.R_drew)); exact HO117.out) (Kd.R_base ho0) hb); have n2_ := Aside0.mk (Kd.R_elder' (by (with_reducible repeat (first | apply Kd.R_alloc | apply Kd.R_drewN | apply Kd.R_drew)); exact HO120.out) (Kd.R_base ho0) hb); have n3_ := Aside0.mk (Kd.R_lower (Kd.R_new' (Kd.R_new' (Kd.R_new' ho0 (Kd.R_lt (by (with_reducible repeat (first | apply Kd.R_alloc | apply Kd.R_drewN | apply Kd.R_drew)); exact HO113.out))) (Kd.R_lt (by (with_reducible repeat (first | apply Kd.R_alloc | apply Kd.R_drewN | apply Kd.R_drew)); exact HO117.out))) (Kd.R_lt (by (with_reducible repeat (first | apply Kd.R_alloc | apply Kd.R_drewN | apply Kd.R_drew)); exact HO120.out))) (below_size (by repeat (first | (with_reducible first | exact HB.out | apply below_alloc | apply pw_below_drewN | apply below_drew1) | exact HB.out)))); have n4_ := Aside0.mk (below_step (by repeat (first | (with_reducible first | exact HB.out | apply below_alloc | apply pw_below_drewN | apply below_drew1) | exact HB.out)) hb); clear HO113; clear HO117; clear HO120; clear HB; have HO113 := n0_; have HO117 := n1_; have HO120 := n2_; have HO124 := n3_; have HB := n4_; clear n0_ n1_ n2_ n3_ n4_; (try clear hb); (try clear hb2); (try clear hk); (try clear hi); (try clear ho0)) | ((with_reducible refine gate_dst (N := 47) rfl ?_); (try (refine gate_guard (by rfl) ?_; dsimp only)); refine Kd.R_lit (Kd.int .u8) _ 5 ?hg (N := 47) ?hd (xs := ([0, 0, 0, 0] : List Int)) (inner := [.int .u8 0, .int .u8 0, .int .u8 0, .int .u8 0]) (ok := fun _ => True) (okp := fun _ => True) ?hr ?hp (fun _ hk => hk) trivial (Below.refl _ _) (Nat.le_refl _) (by simp) ?_; (case hd => rfl); (case hg => rfl); (case hr => first | (go_simp; done) | (go_simp; rfl)); (case hp => exact (Reps.one (show Kd.M (Kd.int .u8) _ _ _ 0 [.int .u8 0] from rfl) (Reps.one (show Kd.M (Kd.int .u8) _ _ _ 0 [.int .u8 0] from rfl) (Reps.one (show Kd.M (Kd.int .u8) _ _ _ 0 [.int .u8 0] from rfl) (Reps.one (show Kd.M (Kd.int .u8) _ _ _ 0 [.int .u8 0] from rfl) (Reps.none _ _)))))); intro v126 w44 ho45 hb hg_ hnew_; clear hg_ hnew_; (first | rw [← Ny125.out] at ho45 | (simp only [Int.reduceToNat] at ho45; rw [← Ny125.out] at ho45)); have n0_ := Aside0.mk (Kd.R_elder' (by (with_reducible repeat (first | apply Kd.R_alloc | apply Kd.R_drewN | apply Kd.R_drew)); exact HO113.out) (Kd.R_base ho45) hb); have n1_ := Aside0.mk (Kd.R_elder' (by (with_reducible repeat (first | apply Kd.R_alloc | apply Kd.R_drewN | apply Kd.R_drew)); exact HO117.out) (Kd.R_base ho45) hb); have n2_ := Aside0.mk (Kd.R_elder' (by (with_reducible repeat (first | apply Kd.R_alloc | apply Kd.R_drewN | apply Kd.R_drew)); exact HO120.out) (Kd.R_base ho45) hb); have n3_ := Aside0.mk (Kd.R_elder' (by (with_reducible repeat (first | apply Kd.R_alloc | apply Kd.R_drewN | apply Kd.R_drew)); exact HO124.out) (Kd.R_base ho45) hb); have n4_ := Aside0.mk (Kd.R_lower (Kd.R_new' (Kd.R_new' (Kd.R_new' (Kd.R_new' ho45 (Kd.R_lt (by (with_reducible repeat (first | apply Kd.R_alloc | apply Kd.R_drewN | apply Kd.R_drew)); exact HO113.out))) (Kd.R_lt (by (with_reducible repeat (first | apply Kd.R_alloc | apply Kd.R_drewN | apply Kd.R_drew)); exact HO117.out))) (Kd.R_lt (by (with_reducible repeat (first | apply Kd.R_alloc | apply Kd.R_drewN | apply Kd.R_drew)); exact HO120.out))) (Kd.R_lt (by (with_reducible repeat (first | apply Kd.R_alloc | apply Kd.R_drewN | apply Kd.R_drew)); exact HO124.out))) (below_size (by repeat (first | (with_reducible first | exact HB.out | apply below_alloc | apply pw_below_drewN | apply below_drew1) | exact HB.out)))); have n5_ := Aside0.mk (below_step (by repeat (first | (with_reducible first | exact HB.out | apply below_alloc | apply pw_below_drewN | apply below_drew1) | exact HB.out)) hb); clear HO113; clear HO117; clear HO120; clear HO124; clear HB; have HO113 := n0_; have HO117 := n1_; have HO120 := n2_; have HO124 := n3_; have HO127 := n4_; have HB := n5_; clear n0_ n1_ n2_ n3_ n4_ n5_; clear hb ho45; obtain ⟨Ao46, co46, eo46⟩ := Kd.R_slice HO127.out; subst eo46) | ((with_reducible refine gate_callee (f := 11) rfl ?_); refine goesL_ (some 48) rfl rfl Try.func11 (by kernel_rfl) rfl #[.slice Ao46 y125.length co46, .int .i64 0] rfl (by (try simp only [List.map_toArray, List.map_cons, List.map_nil]); first | done | rfl | (simp only [List.length_drop, List.length_take]; rfl)) ?_; (with_reducible refine (impl_DocumentEnd.calls _ _ y125 0 t128 true _ ?side1 ?side2 A13.out).mono ?_); (case side1 => repeat (first | exact (Kd.R_reads' HO127.out).2.2 | (with_reducible refine Kd.C_alloc ?_ _) | (with_reducible refine Kd.C_drewN ?_ _) | (with_reducible refine Kd.C_drew ?_))); (case side2 => exact (Kd.R_reads' HO127.out).2.1); rintro e w47 ⟨v130, rfl, ho0, hb⟩; refine ⟨_, rfl, ?_⟩; have n0_ := Aside0.mk (Kd.R_elder' (by (with_reducible repeat (first | apply Kd.R_alloc | apply Kd.R_drewN | apply Kd.R_drew)); exact HO113.out) (Kd.R_base ho0) hb); have n1_ := Aside0.mk (Kd.R_elder' (by (with_reducible repeat (first | apply Kd.R_alloc | apply Kd.R_drewN | apply Kd.R_drew)); exact HO117.out) (Kd.R_base ho0) hb); have n2_ := Aside0.mk (Kd.R_elder' (by (with_reducible repeat (first | apply Kd.R_alloc | apply Kd.R_drewN | apply Kd.R_drew)); exact HO120.out) (Kd.R_base ho0) hb); have n3_ := Aside0.mk (Kd.R_elder' (by (with_reducible repeat (first | apply Kd.R_alloc | apply Kd.R_drewN | apply Kd.R_drew)); exact HO124.out) (Kd.R_base ho0) hb); have n4_ := Aside0.mk (Kd.R_elder' (by (with_reducible repeat (first | apply Kd.R_alloc | apply Kd.R_drewN | apply Kd.R_drew)); exact HO127.out) (Kd.R_base ho0) hb); have n5_ := Aside0.mk (Kd.R_lower (Kd.R_new' (Kd.R_new' (Kd.R_new' (Kd.R_new' (Kd.R_new' ho0 (Kd.R_lt (by (with_reducible repeat (first | apply Kd.R_alloc | apply Kd.R_drewN | apply Kd.R_drew)); exact HO113.out))) (Kd.R_lt (by (with_reducible repeat (first | apply Kd.R_alloc | apply Kd.R_drewN | apply Kd.R_drew)); exact HO117.out))) (Kd.R_lt (by (with_reducible repeat (first | apply Kd.R_alloc | apply Kd.R_drewN | apply Kd.R_drew)); exact HO120.out))) (Kd.R_lt (by (with_reducible repeat (first | apply Kd.R_alloc | apply Kd.R_drewN | apply Kd.R_drew)); exact HO124.out))) (Kd.R_lt (by (with_reducible repeat (first | apply Kd.R_alloc | apply Kd.R_drewN | apply Kd.R_drew)); exact HO127.out))) (below_size (by repeat (first | (with_reducible first | exact HB.out | apply below_alloc | apply pw_below_drewN | apply below_drew1) | exact HB.out)))); have n6_ := Aside0.mk (below_step (by repeat (first | (with_reducible first | exact HB.out | apply below_alloc | apply pw_below_drewN | apply below_drew1) | exact HB.out)) hb); clear HO113; clear HO117; clear HO120; clear HO124; clear HO127; clear HB; have HO113 := n0_; have HO117 := n1_; have HO120 := n2_; have HO124 := n3_; have HO127 := n4_; have HO131 := n5_; have HB := n6_; clear n0_ n1_ n2_ n3_ n4_ n5_ n6_; (try clear hb); (try clear hb2); (try clear hk); (try clear hi); (try clear ho0); have hcv48 := own_string (P := Try.prog) Try.underlying24 Try.underlying5 Try.underlying9 (Kd.own_of_R HO117.out); have hcv49 := Kd.C_string (P := Try.prog) (A := A0) (c := c0) Try.underlying24 Try.underlying5 Try.underlying9 (Kd.C_below HR0.out HB.out); have hcv50 := own_string (P := Try.prog) Try.underlying24 Try.underlying5 Try.underlying9 (Kd.own_of_R HO124.out); have hcv51 := Kd.C_string (P := Try.prog) (A := A0) (c := c0) Try.underlying24 Try.underlying5 Try.underlying9 (Kd.C_below HR0.out HB.out)))
                    go_ret
                    exact ⟨by first | rfl | (simp [errW_none, errW_some] <;> rfl) | (simp [*, errW_none, errW_some] <;> rfl), by repeat (first | (with_reducible first | exact HB.out | apply below_alloc | apply pw_below_drewN | apply below_drew1) | exact HB.out)⟩
                · rw [if_neg c37] at H
                  have c37b0 : ((strOfNums t114).toList == (strOfNums l0).toList) = false := beq_eq_false_iff_ne.mpr c37
                  have c37b1 : ((strOfNums t114).toList != (strOfNums l0).toList) = true := bne_iff_ne.mpr c37
                  as_aux_lemma =>
                    obtain rfl := Option.some.inj H
                    go_wp2_with (first | ((with_reducible refine gate_callee (f := 12) rfl ?_); refine goesL_ (some 34) rfl rfl Try.func12 (by kernel_rfl) rfl #[.slice A0 l0.length c0] rfl (by (try simp only [List.map_toArray, List.map_cons, List.map_nil]); first | done | rfl | (simp only [List.length_drop, List.length_take]; rfl)) ?_; (with_reducible refine (laws_docCopy.calls _ _ l0 t111 _ ?side1 ?side2 A9.out).mono ?_); (case side1 => repeat (first | exact (Kd.C_below HR0.out HB.out) | (with_reducible refine Kd.C_alloc ?_ _) | (with_reducible refine Kd.C_drewN ?_ _) | (with_reducible refine Kd.C_drew ?_))); (case side2 => exact HC0.out); rintro e w52 ⟨v112, rfl, ho0, hb⟩; refine ⟨_, rfl, ?_⟩; have n0_ := Aside0.mk (Kd.R_lower ho0 (below_size (by repeat (first | (with_reducible first | exact HB.out | apply below_alloc | apply pw_below_drewN | apply below_drew1) | exact HB.out)))); have n1_ := Aside0.mk (below_step (by repeat (first | (with_reducible first | exact HB.out | apply below_alloc | apply pw_below_drewN | apply below_drew1) | exact HB.out)) hb); clear HB; have HO113 := n0_; have HB := n1_; clear n0_ n1_; (try clear hb); (try clear hb2); (try clear hk); (try clear hi); (try clear ho0); obtain ⟨Ao53, co53, eo53⟩ := Kd.R_slice HO113.out; subst eo53) | ((with_reducible refine gate_callee (f := 11) rfl ?_); refine goesL_ (some 36) rfl rfl Try.func11 (by kernel_rfl) rfl #[.slice Ao53 t111.length co53, .int .i64 a1] rfl (by (try simp only [List.map_toArray, List.map_cons, List.map_nil]); first | done | rfl | (simp only [List.length_drop, List.length_take]; rfl)) ?_; (with_reducible refine (impl_DocumentEnd.calls _ _ t111 a1 t114 false _ ?side1 ?side2 A10.out).mono ?_); (case side1 => repeat (first | exact (Kd.R_reads' HO113.out).2.2 | (with_reducible refine Kd.C_alloc ?_ _) | (with_reducible refine Kd.C_drewN ?_ _) | (with_reducible refine Kd.C_drew ?_))); (case side2 => exact (Kd.R_reads' HO113.out).2.1); rintro e w54 ⟨v116, rfl, ho0, hb⟩; refine ⟨_, rfl, ?_⟩; have n0_ := Aside0.mk (Kd.R_elder' (by (with_reducible repeat (first | apply Kd.R_alloc | apply Kd.R_drewN | apply Kd.R_drew)); exact HO113.out) (Kd.R_base ho0) hb); have n1_ := Aside0.mk (Kd.R_lower (Kd.R_new' ho0 (Kd.R_lt (by (with_reducible repeat (first | apply Kd.R_alloc | apply Kd.R_drewN | apply Kd.R_drew)); exact HO113.out))) (below_size (by repeat (first | (with_reducible first | exact HB.out | apply below_alloc | apply pw_below_drewN | apply below_drew1) | exact HB.out)))); have n2_ := Aside0.mk (below_step (by repeat (first | (with_reducible first | exact HB.out | apply below_alloc | apply pw_below_drewN | apply below_drew1) | exact HB.out)) hb); clear HO113; clear HB; have HO113 := n0_; have HO117 := n1_; have HB := n2_; clear n0_ n1_ n2_; (try clear hb); (try clear hb2); (try clear hk); (try clear hi); (try clear ho0)) | ((with_reducible refine gate_callee (f := 12) rfl ?_); refine goesL_ (some 41) rfl rfl Try.func12 (by kernel_rfl) rfl #[.slice A0 l0.length c0] rfl (by (try simp only [List.map_toArray, List.map_cons, List.map_nil]); first | done | rfl | (simp only [List.length_drop, List.length_take]; rfl)) ?_; (with_reducible refine (laws_docCopy.calls _ _ l0 t118 _ ?side1 ?side2 A11.out).mono ?_); (case side1 => repeat (first | exact (Kd.C_below HR0.out HB.out) | (with_reducible refine Kd.C_alloc ?_ _) | (with_reducible refine Kd.C_drewN ?_ _) | (with_reducible refine Kd.C_drew ?_))); (case side2 => exact HC0.out); rintro e w55 ⟨v119, rfl, ho0, hb⟩; refine ⟨_, rfl, ?_⟩; have n0_ := Aside0.mk (Kd.R_elder' (by (with_reducible repeat (first | apply Kd.R_alloc | apply Kd.R_drewN | apply Kd.R_drew)); exact HO113.out) (Kd.R_base ho0) hb); have n1_ := Aside0.mk (Kd.R_elder' (by (with_reducible repeat (first | apply Kd.R_alloc | apply Kd.R_drewN | apply Kd.R_drew)); exact HO117.out) (Kd.R_base ho0) hb); have n2_ := Aside0.mk (Kd.R_lower (Kd.R_new' (Kd.R_new' ho0 (Kd.R_lt (by (with_reducible repeat (first | apply Kd.R_alloc | apply Kd.R_drewN | apply Kd.R_drew)); exact HO113.out))) (Kd.R_lt (by (with_reducible repeat (first | apply Kd.R_alloc | apply Kd.R_drewN | apply Kd.R_drew)); exact HO117.out))) (below_size (by repeat (first | (with_reducible first | exact HB.out | apply below_alloc | apply pw_below_drewN | apply below_drew1) | exact HB.out)))); have n3_ := Aside0.mk (below_step (by repeat (first | (with_reducible first | exact HB.out | apply below_alloc | apply pw_below_drewN | apply below_drew1) | exact HB.out)) hb); clear HO113; clear HO117; clear HB; have HO113 := n0_; have HO117 := n1_; have HO120 := n2_; have HB := n3_; clear n0_ n1_ n2_ n3_; (try clear hb); (try clear hb2); (try clear hk); (try clear hi); (try clear ho0); obtain ⟨Ao56, co56, eo56⟩ := Kd.R_slice HO120.out; subst eo56) | ((with_reducible refine gate_callee (f := 13) rfl ?_); refine goesL_ (some 43) rfl rfl Try.func13 (by kernel_rfl) rfl #[.slice Ao56 t118.length co56, .int .i64 a1] rfl (by (try simp only [List.map_toArray, List.map_cons, List.map_nil]); first | done | rfl | (simp only [List.length_drop, List.length_take]; rfl)) ?_; (with_reducible refine (impl_ArrayEnd.calls _ _ t118 a1 t121 false _ ?side1 ?side2 A12.out).mono ?_); (case side1 => repeat (first | exact (Kd.R_reads' HO120.out).2.2 | (with_reducible refine Kd.C_alloc ?_ _) | (with_reducible refine Kd.C_drewN ?_ _) | (with_reducible refine Kd.C_drew ?_))); (case side2 => exact (Kd.R_reads' HO120.out).2.1); rintro e w57 ⟨v123, rfl, ho0, hb⟩; refine ⟨_, rfl, ?_⟩; have n0_ := Aside0.mk (Kd.R_elder' (by (with_reducible repeat (first | apply Kd.R_alloc | apply Kd.R_drewN | apply Kd.R_drew)); exact HO113.out) (Kd.R_base ho0) hb); have n1_ := Aside0.mk (Kd.R_elder' (by (with_reducible repeat (first | apply Kd.R_alloc | apply Kd.R_drewN | apply Kd.R_drew)); exact HO117.out) (Kd.R_base ho0) hb); have n2_ := Aside0.mk (Kd.R_elder' (by (with_reducible repeat (first | apply Kd.R_alloc | apply Kd.R_drewN | apply Kd.R_drew)); exact HO120.out) (Kd.R_base ho0) hb); have n3_ := Aside0.mk (Kd.R_lower (Kd.R_new' (Kd.R_new' (Kd.R_new' ho0 (Kd.R_lt (by (with_reducible repeat (first | apply Kd.R_alloc | apply Kd.R_drewN | apply Kd.R_drew)); exact HO113.out))) (Kd.R_lt (by (with_reducible repeat (first | apply Kd.R_alloc | apply Kd.R_drewN | apply Kd.R_drew)); exact HO117.out))) (Kd.R_lt (by (with_reducible repeat (first | apply Kd.R_alloc | apply Kd.R_drewN | apply Kd.R_drew)); exact HO120.out))) (below_size (by repeat (first | (with_reducible first | exact HB.out | apply below_alloc | apply pw_below_drewN | apply below_drew1) | exact HB.out)))); have n4_ := Aside0.mk (below_step (by repeat (first | (with_reducible first | exact HB.out | apply below_alloc | apply pw_below_drewN | apply below_drew1) | exact HB.out)) hb); clear HO113; clear HO117; clear HO120; clear HB; have HO113 := n0_; have HO117 := n1_; have HO120 := n2_; have HO124 := n3_; have HB := n4_; clear n0_ n1_ n2_ n3_ n4_; (try clear hb); (try clear hb2); (try clear hk); (try clear hi); (try clear ho0)) | ((with_reducible refine gate_dst (N := 47) rfl ?_); (try (refine gate_guard (by rfl) ?_; dsimp only)); refine Kd.R_lit (Kd.int .u8) _ 5 ?hg (N := 47) ?hd (xs := ([0, 0, 0, 0] : List Int)) (inner := [.int .u8 0, .int .u8 0, .int .u8 0, .int .u8 0]) (ok := fun _ => True) (okp := fun _ => True) ?hr ?hp (fun _ hk => hk) trivial (Below.refl _ _) (Nat.le_refl _) (by simp) ?_; (case hd => rfl); (case hg => rfl); (case hr => first | (go_simp; done) | (go_simp; rfl)); (case hp => exact (Reps.one (show Kd.M (Kd.int .u8) _ _ _ 0 [.int .u8 0] from rfl) (Reps.one (show Kd.M (Kd.int .u8) _ _ _ 0 [.int .u8 0] from rfl) (Reps.one (show Kd.M (Kd.int .u8) _ _ _ 0 [.int .u8 0] from rfl) (Reps.one (show Kd.M (Kd.int .u8) _ _ _ 0 [.int .u8 0] from rfl) (Reps.none _ _)))))); intro v126 w58 ho59 hb hg_ hnew_; clear hg_ hnew_; (first | rw [← Ny125.out] at ho59 | (simp only [Int.reduceToNat] at ho59; rw [← Ny125.out] at ho59)); have n0_ := Aside0.mk (Kd.R_elder' (by (with_reducible repeat (first | apply Kd.R_alloc | apply Kd.R_drewN | apply Kd.R_drew)); exact HO113.out) (Kd.R_base ho59) hb); have n1_ := Aside0.mk (Kd.R_elder' (by (with_reducible repeat (first | apply Kd.R_alloc | apply Kd.R_drewN | apply Kd.R_drew)); exact HO117.out) (Kd.R_base ho59) hb); have n2_ := Aside0.mk (Kd.R_elder' (by (with_reducible repeat (first | apply Kd.R_alloc | apply Kd.R_drewN | apply Kd.R_drew)); exact HO120.out) (Kd.R_base ho59) hb); have n3_ := Aside0.mk (Kd.R_elder' (by (with_reducible repeat (first | apply Kd.R_alloc | apply Kd.R_drewN | apply Kd.R_drew)); exact HO124.out) (Kd.R_base ho59) hb); have n4_ := Aside0.mk (Kd.R_lower (Kd.R_new' (Kd.R_new' (Kd.R_new' (Kd.R_new' ho59 (Kd.R_lt (by (with_reducible repeat (first | apply Kd.R_alloc | apply Kd.R_drewN | apply Kd.R_drew)); exact HO113.out))) (Kd.R_lt (by (with_reducible repeat (first | apply Kd.R_alloc | apply Kd.R_drewN | apply Kd.R_drew)); exact HO117.out))) (Kd.R_lt (by (with_reducible repeat (first | apply Kd.R_alloc | apply Kd.R_drewN | apply Kd.R_drew)); exact HO120.out))) (Kd.R_lt (by (with_reducible repeat (first | apply Kd.R_alloc | apply Kd.R_drewN | apply Kd.R_drew)); exact HO124.out))) (below_size (by repeat (first | (with_reducible first | exact HB.out | apply below_alloc | apply pw_below_drewN | apply below_drew1) | exact HB.out)))); have n5_ := Aside0.mk (below_step (by repeat (first | (with_reducible first | exact HB.out | apply below_alloc | apply pw_below_drewN | apply below_drew1) | exact HB.out)) hb); clear HO113; clear HO117; clear HO120; clear HO124; clear HB; have HO113 := n0_; have HO117 := n1_; have HO120 := n2_; have HO124 := n3_; have HO127 := n4_; have HB := n5_; clear n0_ n1_ n2_ n3_ n4_ n5_; clear hb ho59; obtain ⟨Ao60, co60, eo60⟩ := Kd.R_slice HO127.out; subst eo60) | ((with_reducible refine gate_callee (f := 11) rfl ?_); refine goesL_ (some 48) rfl rfl Try.func11 (by kernel_rfl) rfl #[.slice Ao60 y125.length co60, .int .i64 0] rfl (by (try simp only [List.map_toArray, List.map_cons, List.map_nil]); first | done | rfl | (simp only [List.length_drop, List.length_take]; rfl)) ?_; (with_reducible refine (impl_DocumentEnd.calls _ _ y125 0 t128 true _ ?side1 ?side2 A13.out).mono ?_); (case side1 => repeat (first | exact (Kd.R_reads' HO127.out).2.2 | (with_reducible refine Kd.C_alloc ?_ _) | (with_reducible refine Kd.C_drewN ?_ _) | (with_reducible refine Kd.C_drew ?_))); (case side2 => exact (Kd.R_reads' HO127.out).2.1); rintro e w61 ⟨v130, rfl, ho0, hb⟩; refine ⟨_, rfl, ?_⟩; have n0_ := Aside0.mk (Kd.R_elder' (by (with_reducible repeat (first | apply Kd.R_alloc | apply Kd.R_drewN | apply Kd.R_drew)); exact HO113.out) (Kd.R_base ho0) hb); have n1_ := Aside0.mk (Kd.R_elder' (by (with_reducible repeat (first | apply Kd.R_alloc | apply Kd.R_drewN | apply Kd.R_drew)); exact HO117.out) (Kd.R_base ho0) hb); have n2_ := Aside0.mk (Kd.R_elder' (by (with_reducible repeat (first | apply Kd.R_alloc | apply Kd.R_drewN | apply Kd.R_drew)); exact HO120.out) (Kd.R_base ho0) hb); have n3_ := Aside0.mk (Kd.R_elder' (by (with_reducible repeat (first | apply Kd.R_alloc | apply Kd.R_drewN | apply Kd.R_drew)); exact HO124.out) (Kd.R_base ho0) hb); have n4_ := Aside0.mk (Kd.R_elder' (by (with_reducible repeat (first | apply Kd.R_alloc | apply Kd.R_drewN | apply Kd.R_drew)); exact HO127.out) (Kd.R_base ho0) hb); have n5_ := Aside0.mk (Kd.R_lower (Kd.R_new' (Kd.R_new' (Kd.R_new' (Kd.R_new' (Kd.R_new' ho0 (Kd.R_lt (by (with_reducible repeat (first | apply Kd.R_alloc | apply Kd.R_drewN | apply Kd.R_drew)); exact HO113.out))) (Kd.R_lt (by (with_reducible repeat (first | apply Kd.R_alloc | apply Kd.R_drewN | apply Kd.R_drew)); exact HO117.out))) (Kd.R_lt (by (with_reducible repeat (first | apply Kd.R_alloc | apply Kd.R_drewN | apply Kd.R_drew)); exact HO120.out))) (Kd.R_lt (by (with_reducible repeat (first | apply Kd.R_alloc | apply Kd.R_drewN | apply Kd.R_drew)); exact HO124.out))) (Kd.R_lt (by (with_reducible repeat (first | apply Kd.R_alloc | apply Kd.R_drewN | apply Kd.R_drew)); exact HO127.out))) (below_size (by repeat (first | (with_reducible first | exact HB.out | apply below_alloc | apply pw_below_drewN | apply below_drew1) | exact HB.out)))); have n6_ := Aside0.mk (below_step (by repeat (first | (with_reducible first | exact HB.out | apply below_alloc | apply pw_below_drewN | apply below_drew1) | exact HB.out)) hb); clear HO113; clear HO117; clear HO120; clear HO124; clear HO127; clear HB; have HO113 := n0_; have HO117 := n1_; have HO120 := n2_; have HO124 := n3_; have HO127 := n4_; have HO131 := n5_; have HB := n6_; clear n0_ n1_ n2_ n3_ n4_ n5_ n6_; (try clear hb); (try clear hb2); (try clear hk); (try clear hi); (try clear ho0); have hcv62 := own_string (P := Try.prog) Try.underlying24 Try.underlying5 Try.underlying9 (Kd.own_of_R HO117.out); have hcv63 := Kd.C_string (P := Try.prog) (A := A0) (c := c0) Try.underlying24 Try.underlying5 Try.underlying9 (Kd.C_below HR0.out HB.out)))
                    go_ret
                    exact ⟨by first | rfl | (simp [errW_none, errW_some] <;> rfl) | (simp [*, errW_none, errW_some] <;> rfl), by repeat (first | (with_reducible first | exact HB.out | apply below_alloc | apply pw_below_drewN | apply below_drew1) | exact HB.out)⟩
              · replace c36 := Bool.eq_false_iff.mpr c36
                subst c36
                have H1 : (some false) = some r := by rw [if_neg (show ¬ (false = true) by decide)] at H; exact H
                clear H
                have H := H1
                clear H1
                as_aux_lemma =>
                  obtain rfl := Option.some.inj H
                  go_wp2_with (first | ((with_reducible refine gate_callee (f := 12) rfl ?_); refine goesL_ (some 34) rfl rfl Try.func12 (by kernel_rfl) rfl #[.slice A0 l0.length c0] rfl (by (try simp only [List.map_toArray, List.map_cons, List.map_nil]); first | done | rfl | (simp only [List.length_drop, List.length_take]; rfl)) ?_; (with_reducible refine (laws_docCopy.calls _ _ l0 t111 _ ?side1 ?side2 A9.out).mono ?_); (case side1 => repeat (first | exact (Kd.C_below HR0.out HB.out) | (with_reducible refine Kd.C_alloc ?_ _) | (with_reducible refine Kd.C_drewN ?_ _) | (with_reducible refine Kd.C_drew ?_))); (case side2 => exact HC0.out); rintro e w64 ⟨v112, rfl, ho0, hb⟩; refine ⟨_, rfl, ?_⟩; have n0_ := Aside0.mk (Kd.R_lower ho0 (below_size (by repeat (first | (with_reducible first | exact HB.out | apply below_alloc | apply pw_below_drewN | apply below_drew1) | exact HB.out)))); have n1_ := Aside0.mk (below_step (by repeat (first | (with_reducible first | exact HB.out | apply below_alloc | apply pw_below_drewN | apply below_drew1) | exact HB.out)) hb); clear HB; have HO113 := n0_; have HB := n1_; clear n0_ n1_; (try clear hb); (try clear hb2); (try clear hk); (try clear hi); (try clear ho0); obtain ⟨Ao65, co65, eo65⟩ := Kd.R_slice HO113.out; subst eo65) | ((with_reducible refine gate_callee (f := 11) rfl ?_); refine goesL_ (some 36) rfl rfl Try.func11 (by kernel_rfl) rfl #[.slice Ao65 t111.length co65, .int .i64 a1] rfl (by (try simp only [List.map_toArray, List.map_cons, List.map_nil]); first | done | rfl | (simp only [List.length_drop, List.length_take]; rfl)) ?_; (with_reducible refine (impl_DocumentEnd.calls _ _ t111 a1 t114 false _ ?side1 ?side2 A10.out).mono ?_); (case side1 => repeat (first | exact (Kd.R_reads' HO113.out).2.2 | (with_reducible refine Kd.C_alloc ?_ _) | (with_reducible refine Kd.C_drewN ?_ _) | (with_reducible refine Kd.C_drew ?_))); (case side2 => exact (Kd.R_reads' HO113.out).2.1); rintro e w66 ⟨v116, rfl, ho0, hb⟩; refine ⟨_, rfl, ?_⟩; have n0_ := Aside0.mk (Kd.R_elder' (by (with_reducible repeat (first | apply Kd.R_alloc | apply Kd.R_drewN | apply Kd.R_drew)); exact HO113.out) (Kd.R_base ho0) hb); have n1_ := Aside0.mk (Kd.R_lower (Kd.R_new' ho0 (Kd.R_lt (by (with_reducible repeat (first | apply Kd.R_alloc | apply Kd.R_drewN | apply Kd.R_drew)); exact HO113.out))) (below_size (by repeat (first | (with_reducible first | exact HB.out | apply below_alloc | apply pw_below_drewN | apply below_drew1) | exact HB.out)))); have n2_ := Aside0.mk (below_step (by repeat (first | (with_reducible first | exact HB.out | apply below_alloc | apply pw_below_drewN | apply below_drew1) | exact HB.out)) hb); clear HO113; clear HB; have HO113 := n0_; have HO117 := n1_; have HB := n2_; clear n0_ n1_ n2_; (try clear hb); (try clear hb2); (try clear hk); (try clear hi); (try clear ho0)) | ((with_reducible refine gate_callee (f := 12) rfl ?_); refine goesL_ (some 41) rfl rfl Try.func12 (by kernel_rfl) rfl #[.slice A0 l0.length c0] rfl (by (try simp only [List.map_toArray, List.map_cons, List.map_nil]); first | done | rfl | (simp only [List.length_drop, List.length_take]; rfl)) ?_; (with_reducible refine (laws_docCopy.calls _ _ l0 t118 _ ?side1 ?side2 A11.out).mono ?_); (case side1 => repeat (first | exact (Kd.C_below HR0.out HB.out) | (with_reducible refine Kd.C_alloc ?_ _) | (with_reducible refine Kd.C_drewN ?_ _) | (with_reducible refine Kd.C_drew ?_))); (case side2 => exact HC0.out); rintro e w67 ⟨v119, rfl, ho0, hb⟩; refine ⟨_, rfl, ?_⟩; have n0_ := Aside0.mk (Kd.R_elder' (by (with_reducible repeat (first | apply Kd.R_alloc | apply Kd.R_drewN | apply Kd.R_drew)); exact HO113.out) (Kd.R_base ho0) hb); have n1_ := Aside0.mk (Kd.R_elder' (by (with_reducible repeat (first | apply Kd.R_alloc | apply Kd.R_drewN | apply Kd.R_drew)); exact HO117.out) (Kd.R_base ho0) hb); have n2_ := Aside0.mk (Kd.R_lower (Kd.R_new' (Kd.R_new' ho0 (Kd.R_lt (by (with_reducible repeat (first | apply Kd.R_alloc | apply Kd.R_drewN | apply Kd.R_drew)); exact HO113.out))) (Kd.R_lt (by (with_reducible repeat (first | apply Kd.R_alloc | apply Kd.R_drewN | apply Kd.R_drew)); exact HO117.out))) (below_size (by repeat (first | (with_reducible first | exact HB.out | apply below_alloc | apply pw_below_drewN | apply below_drew1) | exact HB.out)))); have n3_ := Aside0.mk (below_step (by repeat (first | (with_reducible first | exact HB.out | apply below_alloc | apply pw_below_drewN | apply below_drew1) | exact HB.out)) hb); clear HO113; clear HO117; clear HB; have HO113 := n0_; have HO117 := n1_; have HO120 := n2_; have HB := n3_; clear n0_ n1_ n2_ n3_; (try clear hb); (try clear hb2); (try clear hk); (try clear hi); (try clear ho0); obtain ⟨Ao68, co68, eo68⟩ := Kd.R_slice HO120.out; subst eo68) | ((with_reducible refine gate_callee (f := 13) rfl ?_); refine goesL_ (some 43) rfl rfl Try.func13 (by kernel_rfl) rfl #[.slice Ao68 t118.length co68, .int .i64 a1] rfl (by (try simp only [List.map_toArray, List.map_cons, List.map_nil]); first | done | rfl | (simp only [List.length_drop, List.length_take]; rfl)) ?_; (with_reducible refine (impl_ArrayEnd.calls _ _ t118 a1 t121 false _ ?side1 ?side2 A12.out).mono ?_); (case side1 => repeat (first | exact (Kd.R_reads' HO120.out).2.2 | (with_reducible refine Kd.C_alloc ?_ _) | (with_reducible refine Kd.C_drewN ?_ _) | (with_reducible refine Kd.C_drew ?_))); (case side2 => exact (Kd.R_reads' HO120.out).2.1); rintro e w69 ⟨v123, rfl, ho0, hb⟩; refine ⟨_, rfl, ?_⟩; have n0_ := Aside0.mk (Kd.R_elder' (by (with_reducible repeat (first | apply Kd.R_alloc | apply Kd.R_drewN | apply Kd.R_drew)); exact HO113.out) (Kd.R_base ho0) hb); have n1_ := Aside0.mk (Kd.R_elder' (by (with_reducible repeat (first | apply Kd.R_alloc | apply Kd.R_drewN | apply Kd.R_drew)); exact HO117.out) (Kd.R_base ho0) hb); have n2_ := Aside0.mk (Kd.R_elder' (by (with_reducible repeat (first | apply Kd.R_alloc | apply Kd.R_drewN | apply Kd.R_drew)); exact HO120.out) (Kd.R_base ho0) hb); have n3_ := Aside0.mk (Kd.R_lower (Kd.R_new' (Kd.R_new' (Kd.R_new' ho0 (Kd.R_lt (by (with_reducible repeat (first | apply Kd.R_alloc | apply Kd.R_drewN | apply Kd.R_drew)); exact HO113.out))) (Kd.R_lt (by (with_reducible repeat (first | apply Kd.R_alloc | apply Kd.R_drewN | apply Kd.R_drew)); exact HO117.out))) (Kd.R_lt (by (with_reducible repeat (first | apply Kd.R_alloc | apply Kd.R_drewN | apply Kd.R_drew)); exact HO120.out))) (below_size (by repeat (first | (with_reducible first | exact HB.out | apply below_alloc | apply pw_below_drewN | apply below_drew1) | exact HB.out)))); have n4_ := Aside0.mk (below_step (by repeat (first | (with_reducible first | exact HB.out | apply below_alloc | apply pw_below_drewN | apply below_drew1) | exact HB.out)) hb); clear HO113; clear HO117; clear HO120; clear HB; have HO113 := n0_; have HO117 := n1_; have HO120 := n2_; have HO124 := n3_; have HB := n4_; clear n0_ n1_ n2_ n3_ n4_; (try clear hb); (try clear hb2); (try clear hk); (try clear hi); (try clear ho0)) | ((with_reducible refine gate_dst (N := 47) rfl ?_); (try (refine gate_guard (by rfl) ?_; dsimp only)); refine Kd.R_lit (Kd.int .u8) _ 5 ?hg (N := 47) ?hd (xs := ([0, 0, 0, 0] : List Int)) (inner := [.int .u8 0, .int .u8 0, .int .u8 0, .int .u8 0]) (ok := fun _ => True) (okp := fun _ => True) ?hr ?hp (fun _ hk => hk) trivial (Below.refl _ _) (Nat.le_refl _) (by simp) ?_; (case hd => rfl); (case hg => rfl); (case hr => first | (go_simp; done) | (go_simp; rfl)); (case hp => exact (Reps.one (show Kd.M (Kd.int .u8) _ _ _ 0 [.int .u8 0] from rfl) (Reps.one (show Kd.M (Kd.int .u8) _ _ _ 0 [.int .u8 0] from rfl) (Reps.one (show Kd.M (Kd.int .u8) _ _ _ 0 [.int .u8 0] from rfl) (Reps.one (show Kd.M (Kd.int .u8) _ _ _ 0 [.int .u8 0] from rfl) (Reps.none _ _)))))); intro v126 w70 ho71 hb hg_ hnew_; clear hg_ hnew_; (first | rw [← Ny125.out] at ho71 | (simp only [Int.reduceToNat] at ho71; rw [← Ny125.out] at ho71)); have n0_ := Aside0.mk (Kd.R_elder' (by (with_reducible repeat (first | apply Kd.R_alloc | apply Kd.R_drewN | apply Kd.R_drew)); exact HO113.out) (Kd.R_base ho71) hb); have n1_ := Aside0.mk (Kd.R_elder' (by (with_reducible repeat (first | apply Kd.R_alloc | apply Kd.R_drewN | apply Kd.R_drew)); exact HO117.out) (Kd.R_base ho71) hb); have n2_ := Aside0.mk (Kd.R_elder' (by (with_reducible repeat (first | apply Kd.R_alloc | apply Kd.R_drewN | apply Kd.R_drew)); exact HO120.out) (Kd.R_base ho71) hb); have n3_ := Aside0.mk (Kd.R_elder' (by (with_reducible repeat (first | apply Kd.R_alloc | apply Kd.R_drewN | apply Kd.R_drew)); exact HO124.out) (Kd.R_base ho71) hb); have n4_ := Aside0.mk (Kd.R_lower (Kd.R_new' (Kd.R_new' (Kd.R_new' (Kd.R_new' ho71 (Kd.R_lt (by (with_reducible repeat (first | apply Kd.R_alloc | apply Kd.R_drewN | apply Kd.R_drew)); exact HO113.out))) (Kd.R_lt (by (with_reducible repeat (first | apply Kd.R_alloc | apply Kd.R_drewN | apply Kd.R_drew)); exact HO117.out))) (Kd.R_lt (by (with_reducible repeat (first | apply Kd.R_alloc | apply Kd.R_drewN | apply Kd.R_drew)); exact HO120.out))) (Kd.R_lt (by (with_reducible repeat (first | apply Kd.R_alloc | apply Kd.R_drewN | apply Kd.R_drew)); exact HO124.out))) (below_size (by repeat (first | (with_reducible first | exact HB.out | apply below_alloc | apply pw_below_drewN | apply below_drew1) | exact HB.out)))); have n5_ := Aside0.mk (below_step (by repeat (first | (with_reducible first | exact HB.out | apply below_alloc | apply pw_below_drewN | apply below_drew1) | exact HB.out)) hb); clear HO113; clear HO117; clear HO120; clear HO124; clear HB; have HO113 := n0_; have HO117 := n1_; have HO120 := n2_; have HO124 := n3_; have HO127 := n4_; have HB := n5_; clear n0_ n1_ n2_ n3_ n4_ n5_; clear hb ho71; obtain ⟨Ao72, co72, eo72⟩ := Kd.R_slice HO127.out; subst eo72) | ((with_reducible refine gate_callee (f := 11) rfl ?_); refine goesL_ (some 48) rfl rfl Try.func11 (by kernel_rfl) rfl #[.slice Ao72 y125.length co72, .int .i64 0] rfl (by (try simp only [List.map_toArray, List.map_cons, List.map_nil]); first | done | rfl | (simp only [List.length_drop, List.length_take]; rfl)) ?_; (with_reducible refine (impl_DocumentEnd.calls _ _ y125 0 t128 false _ ?side1 ?side2 A13.out).mono ?_); (case side1 => repeat (first | exact (Kd.R_reads' HO127.out).2.2 | (with_reducible refine Kd.C_alloc ?_ _) | (with_reducible refine Kd.C_drewN ?_ _) | (with_reducible refine Kd.C_drew ?_))); (case side2 => exact (Kd.R_reads' HO127.out).2.1); rintro e w73 ⟨v130, rfl, ho0, hb⟩; refine ⟨_, rfl, ?_⟩; have n0_ := Aside0.mk (Kd.R_elder' (by (with_reducible repeat (first | apply Kd.R_alloc | apply Kd.R_drewN | apply Kd.R_drew)); exact HO113.out) (Kd.R_base ho0) hb); have n1_ := Aside0.mk (Kd.R_elder' (by (with_reducible repeat (first | apply Kd.R_alloc | apply Kd.R_drewN | apply Kd.R_drew)); exact HO117.out) (Kd.R_base ho0) hb); have n2_ := Aside0.mk (Kd.R_elder' (by (with_reducible repeat (first | apply Kd.R_alloc | apply Kd.R_drewN | apply Kd.R_drew)); exact HO120.out) (Kd.R_base ho0) hb); have n3_ := Aside0.mk (Kd.R_elder' (by (with_reducible repeat (first | apply Kd.R_alloc | apply Kd.R_drewN | apply Kd.R_drew)); exact HO124.out) (Kd.R_base ho0) hb); have n4_ := Aside0.mk (Kd.R_elder' (by (with_reducible repeat (first | apply Kd.R_alloc | apply Kd.R_drewN | apply Kd.R_drew)); exact HO127.out) (Kd.R_base ho0) hb); have n5_ := Aside0.mk (Kd.R_lower (Kd.R_new' (Kd.R_new' (Kd.R_new' (Kd.R_new' (Kd.R_new' ho0 (Kd.R_lt (by (with_reducible repeat (first | apply Kd.R_alloc | apply Kd.R_drewN | apply Kd.R_drew)); exact HO113.out))) (Kd.R_lt (by (with_reducible repeat (first | apply Kd.R_alloc | apply Kd.R_drewN | apply Kd.R_drew)); exact HO117.out))) (Kd.R_lt (by (with_reducible repeat (first | apply Kd.R_alloc | apply Kd.R_drewN | apply Kd.R_drew)); exact HO120.out))) (Kd.R_lt (by (with_reducible repeat (first | apply Kd.R_alloc | apply Kd.R_drewN | apply Kd.R_drew)); exact HO124.out))) (Kd.R_lt (by (with_reducible repeat (first | apply Kd.R_alloc | apply Kd.R_drewN | apply Kd.R_drew)); exact HO127.out))) (below_size (by repeat (first | (with_reducible first | exact HB.out | apply below_alloc | apply pw_below_drewN | apply below_drew1) | exact HB.out)))); have n6_ := Aside0.mk (below_step (by repeat (first | (with_reducible first | exact HB.out | apply below_alloc | apply pw_below_drewN | apply below_drew1) | exact HB.out)) hb); clear HO113; clear HO117; clear HO120; clear HO124; clear HO127; clear HB; have HO113 := n0_; have HO117 := n1_; have HO120 := n2_; have HO124 := n3_; have HO127 := n4_; have HO131 := n5_; have HB := n6_; clear n0_ n1_ n2_ n3_ n4_ n5_ n6_; (try clear hb); (try clear hb2); (try clear hk); (try clear hi); (try clear ho0)))
                  go_ret
                  exact ⟨by first | rfl | (simp [errW_none, errW_some] <;> rfl) | (simp [*, errW_none, errW_some] <;> rfl), by repeat (first | (with_reducible first | exact HB.out | apply below_alloc | apply pw_below_drewN | apply below_drew1) | exact HB.out)⟩

/-- THE ONE PURE STATEMENT of laws_FnDocEndBad: yours. -/
def laws_FnDocEndBad.Pure : Prop := ∀ (l0 : List Int) (a1 : Int), l0.length ≤ maxLen → l0.length * 1 ≤ 140737488351232 → (∀ x ∈ l0, (Lit.int .u8 x).wf = true) → (Lit.int .i64 a1).wf = true → ∃ k, laws_FnDocEndBad.f k l0 a1 = some true
theorem laws_FnDocEndBad.walk (P : laws_FnDocEndBad.Pure) (a0 : Option Addr) (len0 cap0 : Nat) (z0 : List Int) (a1 : Int) (w : World) (w0 : (a0 = none ∧ len0 = 0 ∧ cap0 = 0 ∧ z0 = []) ∨ ∃ x, a0 = some x ∧ len0 ≤ cap0 ∧ cap0 ≤ maxLen ∧ z0.length = cap0 ∧ (∀ i, i < z0.length → w.cell? (x.add i) = some (.int .u8 (z0.getD i 0))) ∧ ∀ n ∈ z0, (Lit.int .u8 n).wf = true) (y0 : len0 * 1 ≤ 140737488351232) (w1 : (Lit.int .i64 a1).wf = true) :
    Calls Try.prog 4 #[.slice a0 len0 cap0, .int .i64 a1] w fun e w' => e = .returned (.bool true) ∧ Below w.heap.size w w' := by
  obtain ⟨l0, rfl, hr0, hm0, hw0, hc0⟩ := ReadsInt.ofRowC w0
  obtain ⟨k, h⟩ := P l0 a1 hm0 y0 hw0 w1
  refine (laws_FnDocEndBad.calls k _ _ l0 a1 true w (Kd.C_of_reads (d := (0 : Int)) (h1 := fun _ => rfl) hr0) hc0 h).mono ?_
  rintro e w' ⟨rfl, hd⟩
  exact ⟨rfl, hd⟩

end Go.Proofs.Ythlpmeiihchdjaa.PDE
