/- Walks by hand of functions of this seat. Conditions: as each theorem states them. -/
import Derived.Test.YthlpmeiihchdjaaDoorProg
import Derived.Test.YthlpmeiihchdjaaDoorHW
import Derived.Below
import Derived.Deep.Draws
import Derived.OwnWalk
import Derived.Tactics
import Derived.WalkKit
import Derived.KernelRfl
import Derived.RowKit3
import Derived.Deep.LoopGhost
import Derived.Deep.QuietTactic
import Derived.BigQuiet
import Derived.WideLaws
import Derived.Deep.DeepCutAuto
import Derived.Deep.CutBlock
import Derived.Laws.Rows
import Derived.Outline
import Derived.StillTailTactics
import Derived.Deep.RegionHeld3
import Derived.Test.YthlpmeiihchdjaaDoorPZx
import Derived.Test.YthlpmeiihchdjaaDoorPL
import Derived.Deep.RegionWith
import Derived.Laws.CopyRow
import Derived.Laws.IdiomCopy
import Derived.Deep.WholeRow
import Derived.Laws.MakeOwn
import Derived.Lib.Strings
namespace Go.Proofs.YthlpmeiihchdjaaDoor.Vec
open Go.RowKit Go.Proofs.YthlpmeiihchdjaaDoorW.PrintWords Go.Proofs.YthlpmeiihchdjaaDoorW.PrintLast Go.Proofs.YthlpmeiihchdjaaDoorW.PrintMore
set_option linter.unusedVariables false
set_option linter.unusedSimpArgs false
open Go.Lib
/-- What the variables hold that a vector of bits may lead to. -/
def LaidV (w : World) : Prop := (∃ T p, w.cell? ⟨0, 0, none⟩ = some (.iface T p)) ∧ (∃ T p, w.cell? ⟨1, 0, none⟩ = some (.iface T p)) ∧ (∃ T p, w.cell? ⟨2, 0, none⟩ = some (.iface T p))
theorem LaidV.below {w w' : World} (h : LaidV w) {n : Nat} (hn : 2 < n) (hb : Below n w w') : LaidV w' := by
  obtain ⟨⟨T, p, h0⟩, ⟨T1, p1, h1⟩, ⟨T2, p2, h2⟩⟩ := h
  exact ⟨⟨T, p, (hb.cell (p := ⟨0, 0, none⟩) (by show 0 < n; omega)).trans h0⟩, ⟨T1, p1, (hb.cell (p := ⟨1, 0, none⟩) (by show 1 < n; omega)).trans h1⟩, ⟨T2, p2, (hb.cell (p := ⟨2, 0, none⟩) (by show 2 < n; omega)).trans h2⟩⟩
theorem LaidV.lt {w : World} (h : LaidV w) : 2 < w.heap.size := by
  obtain ⟨_, _, ⟨T, p, h2⟩⟩ := h
  exact World.block_lt_of_cell? w ⟨2, 0, none⟩ h2
set_option maxHeartbeats 4000000 in
set_option maxRecDepth 100000 in
theorem npbv_wide (A : Option Addr) (n c : Nat) (p : Int) (w : World) (hg : LaidV w) (hp : 7 < p) :
    Calls Tryd.prog 21 #[.slice A n c, .int .u8 p] w fun e w' => (∃ T q, e = .returned (.tuple #[.agg #[.int .u8 0, .slice none 0 0, .slice none 0 0, .slice none 0 0, .int .u8 0], .iface T q])) ∧ Below w.heap.size w w' := by
  have hlt := hg.lt
  obtain ⟨⟨T, q, h0⟩, _, _⟩ := hg
  have B0 : ∀ o o', Below w.heap.size w ((w.alloc o).alloc o') := fun o o' => ((Below.refl _ w).alloc (Nat.le_refl _) o).alloc (by simp) o'
  have e0 : ∀ o o', ((w.alloc o).alloc o').cell? ⟨0, 0, none⟩ = some (.iface T q) := fun o o' => ((B0 o o').cell (p := ⟨0, 0, none⟩) (by show 0 < _; omega)).trans h0
  have hp2 : (7 < p) = True := eq_true hp
  go_enter Tryd.func21, Tryd.ntmps21
  go_wp2
  go_region
  go_wp2
  refine bodyPost_ret (v := .tuple #[.agg #[.int .u8 0, .slice none 0 0, .slice none 0 0, .slice none 0 0, .int .u8 0], .iface T q]) (by simp [results, Tryd.results21, go_sem]) rfl ⟨⟨T, q, rfl⟩, (B0 _ _).drew⟩
set_option maxHeartbeats 4000000 in
set_option maxRecDepth 100000 in
theorem npbv_none (A : Option Addr) (c : Nat) (p : Int) (w : World) (hg : LaidV w) (hp : p ≤ 7) (hp0 : 0 < p) :
    Calls Tryd.prog 21 #[.slice A 0 c, .int .u8 p] w fun e w' => (∃ T q, e = .returned (.tuple #[.agg #[.int .u8 0, .slice none 0 0, .slice none 0 0, .slice none 0 0, .int .u8 0], .iface T q])) ∧ Below w.heap.size w w' := by
  have hlt := hg.lt
  obtain ⟨_, ⟨T, q, h0⟩, _⟩ := hg
  have B0 : ∀ o o', Below w.heap.size w ((w.alloc o).alloc o') := fun o o' => ((Below.refl _ w).alloc (Nat.le_refl _) o).alloc (by simp) o'
  have e0 : ∀ o o', ((w.alloc o).alloc o').cell? ⟨1, 0, none⟩ = some (.iface T q) := fun o o' => ((B0 o o').cell (p := ⟨1, 0, none⟩) (by show 1 < _; omega)).trans h0
  have hp2 : (7 < p) = False := eq_false (by omega)
  have hp3 : (0 < p) = True := eq_true hp0
  go_enter Tryd.func21, Tryd.ntmps21
  go_wp2
  go_region
  go_wp2
  refine bodyPost_ret (v := .tuple #[.agg #[.int .u8 0, .slice none 0 0, .slice none 0 0, .slice none 0 0, .int .u8 0], .iface T q]) (by simp [results, Tryd.results21, go_sem]) rfl ⟨⟨T, q, rfl⟩, (B0 _ _).drew⟩
theorem madeCells_zero : madeCells #[Value.int .u8 0] 0 = #[] := by decide +kernel
set_option maxRecDepth 100000 in
theorem copy_made (A : Option Addr) (c : Nat) (l : List Int) (W : World) (hr : Kd.C (Kd.int .u8) W A l.length l) (g : Nat) (hg : g = W.heap.size) :
    (Builtin.copy_ #[22, 22] 3 #[.slice (some ⟨g, 0, none⟩) l.length l.length, .slice A l.length c]).run Tryd.prog (W.alloc (.cells (madeCells #[.int .u8 0] l.length) 5)) = .ok (.int .i64 (l.length : Int)) (W.alloc (.cells (l.map (Value.int .u8)).toArray 5)) := by
  subst hg
  by_cases h0 : l.length = 0
  · obtain rfl : l = [] := List.length_eq_zero_iff.1 h0
    exact (run_copy_none (P := Tryd.prog) _ 22 22 3 5 _ _ _ _ _ _ Tryd.underlying22 (by kernel_rfl) rfl).trans (by rw [show ([] : List Int).length = 0 from rfl, madeCells_zero]; rfl)
  · obtain ⟨_, _, hcell⟩ := Kd.reads_of_C (enc := Value.int .u8) (d := (0 : Int)) (h1 := fun _ => rfl) hr
    obtain ⟨ad, rfl, hat⟩ := hcell (by omega)
    have hB : ∀ o, Below W.heap.size W (W.alloc o) := fun o => (Below.refl _ W).alloc (Nat.le_refl _) o
    have hc : ∀ j v, (l.map (Value.int .u8))[j]? = some v → W.cell? (ad.add j) = some v := by
      intro j v hv
      rw [List.getElem?_map] at hv
      obtain ⟨x, hx, rfl⟩ := Option.map_eq_some_iff.1 hv
      have := hat j (List.getElem?_eq_some_iff.1 hx).1
      rw [List.getD_eq_getElem?_getD, hx] at this
      exact this
    have := run_copy_row (P := Tryd.prog) (W.alloc (.cells (madeCells #[.int .u8 0] l.length) 5)) 22 22 3 5 W.heap.size 0 l.length l.length ad l.length c (madeCells #[.int .u8 0] l.length) 5 (l.map (Value.int .u8)) Tryd.underlying22 (by kernel_rfl) (by show (W.heap.push _)[W.heap.size]? = _; exact Array.getElem?_push_size ..) (by rw [List.length_map]; exact (Nat.min_self _).symm)
      (fun j v hv => ((hB _).cell (World.block_lt_of_cell? W _ (hc j v hv))).trans (hc j v hv)) (by rw [size_madeCells, List.length_map]; omega) (fun v hv => by rcases List.mem_map.1 hv with ⟨x, _, rfl⟩; rfl)
    rw [this, World.setRow_alloc_new, List.length_map]
    congr 2
    congr 1
    have hs : (madeCells #[Value.int .u8 0] l.length).toList.length = l.length := by rw [Array.length_toList, size_madeCells]
    rw [List.take_zero, List.nil_append, List.drop_eq_nil_of_le (by rw [hs]; omega), List.append_nil]
theorem made_own (l : List Int) (W : World) (base g : Nat) (hg : g = W.heap.size) (hb : base ≤ W.heap.size) (hl : l.length ≤ 16777216) : Kd.R (Kd.int .u8) 5 (W.alloc (.cells (l.map (Value.int .u8)).toArray 5)) base (fun _ => True) (.slice (some ⟨g, 0, none⟩) l.length l.length) l := by
  subst hg
  refine Kd.R_of_own (enc := Value.int .u8) (h1 := fun _ => rfl) ⟨by simp [encs], .inr ⟨W.heap.size, l.length, (l.map (Value.int .u8)).toArray, rfl, hb, ?_, Nat.le_refl _, ?_, ?_, ?_⟩⟩ (fun _ _ => trivial)
  · show (W.heap.push _)[W.heap.size]? = _
    exact Array.getElem?_push_size ..
  · unfold maxLen; omega
  · simp
  · simp [encs, List.take_of_length_le]
set_option maxHeartbeats 4000000 in
set_option maxRecDepth 100000 in
theorem npbv_good (A : Option Addr) (c : Nat) (l : List Int) (p : Int) (w : World) (hr : Kd.C (Kd.int .u8) w A l.length l) (hl : l.length ≤ 16777216) (hp : p ≤ 7) (hp0 : ¬ (0 < p ∧ l.length = 0)) :
    Calls Tryd.prog 21 #[.slice A l.length c, .int .u8 p] w fun e w' => ∃ v, e = .returned (.tuple #[.agg #[.int .u8 16, .slice none 0 0, .slice none 0 0, v, .int .u8 p], .nilIface]) ∧ Kd.R (Kd.int .u8) 5 w' w.heap.size (fun _ => True) v l ∧ Below w.heap.size w w' := by
  have B0 : ∀ o o', Below w.heap.size w ((w.alloc o).alloc o') := fun o o' => ((Below.refl _ w).alloc (Nat.le_refl _) o).alloc (by simp) o'
  have hp2 : (7 < p) = False := eq_false (by omega)
  obtain ⟨i0, hi, hzz⟩ := Option.map_eq_some_iff.1 (show (Tryd.prog.info? 5).map (fun i => (i.zero, i.size, i.bytes)) = some (some (.int .u8 0), 1, 1) by kernel_rfl)
  simp only [Prod.mk.injEq] at hzz
  have hmk : ∀ W, (Instr.makeSlice 22 (.int .i64 (l.length : Int)) (.int .i64 (l.length : Int))).run Tryd.prog W = .ok (.slice (some ⟨W.heap.size, 0, none⟩) l.length l.length) (W.alloc (.cells (madeCells #[.int .u8 0] l.length) 5)) := fun W => by
    have := run_makeSlice (P := Tryd.prog) (w := W) 22 5 i0 (.int .u8 0) Tryd.underlying22 hi hzz.1 .i64 .i64 (l.length : Int) (l.length : Int) (by omega) (by omega) (by rw [hzz.2.1]; omega) (by rw [hzz.2.2]; omega) (by omega)
    rw [hzz.2.1, Nat.mul_one, Int.toNat_natCast] at this
    exact this
  have hcp : ∀ o o', (Builtin.copy_ #[22, 22] 3 #[.slice (some ⟨w.heap.size + 1 + 1, 0, none⟩) l.length l.length, .slice A l.length c]).run Tryd.prog (((w.alloc o).alloc o').alloc (.cells (madeCells #[.int .u8 0] l.length) 5)) = .ok (.int .i64 (l.length : Int)) (((w.alloc o).alloc o').alloc (.cells (l.map (Value.int .u8)).toArray 5)) := fun o o' => copy_made A c l _ (Kd.C_below hr (B0 o o')) _ (by simp)
  have HO := Aside0.mk (fun o o' => made_own l ((w.alloc o).alloc o') w.heap.size (w.heap.size + 1 + 1) (by simp) (by simp; omega) hl)
  have HB : Aside0 (∀ o o' o'', Below w.heap.size w (((w.alloc o).alloc o').alloc o'')) := Aside0.mk (fun o o' o'' => (B0 o o').alloc (by simp; omega) o'')
  clear hr hzz hi
  by_cases hq : 0 < p
  · have hp3 : (0 < p) = True := eq_true hq
    have hne : ((l.length : Int) = 0) = False := eq_false (by omega)
    go_enter Tryd.func21, Tryd.ntmps21
    go_wp2
    refine bodyPost_ret (v := .tuple #[.agg #[.int .u8 16, .slice none 0 0, .slice none 0 0, .slice (some ⟨w.heap.size + 1 + 1, 0, none⟩) l.length l.length, .int .u8 p], .nilIface]) (by simp [results, Tryd.results21, go_sem]) rfl ⟨_, rfl, HO.out _ _, HB.out _ _ _⟩
  · have hp3 : (0 < p) = False := eq_false hq
    go_enter Tryd.func21, Tryd.ntmps21
    go_wp2
    refine bodyPost_ret (v := .tuple #[.agg #[.int .u8 16, .slice none 0 0, .slice none 0 0, .slice (some ⟨w.heap.size + 1 + 1, 0, none⟩) l.length l.length, .int .u8 p], .nilIface]) (by simp [results, Tryd.results21, go_sem]) rfl ⟨_, rfl, HO.out _ _, HB.out _ _ _⟩
open Go.Proofs.YthlpmeiihchdjaaDoor.PL Go.Proofs.YthlpmeiihchdjaaDoor.PZ
theorem madeCells_at (m i : Nat) (h : i < m) : (madeCells #[Value.int .u8 0] m)[i]? = some (.int .u8 0) := by
  unfold madeCells
  simp [h, Nat.mod_one]
theorem two_cells (Z : Array Value) (l : List Int) (p : Int) (hZ : Z.size = l.length + 2) :
    (((Z.setIfInBounds 0 (Value.int .u8 16)).setIfInBounds 1 (.int .u8 p)).toList.take 2 ++ l.map (Value.int .u8) ++ ((Z.setIfInBounds 0 (Value.int .u8 16)).setIfInBounds 1 (.int .u8 p)).toList.drop (2 + (l.map (Value.int .u8)).length)).toArray = ((16 :: p :: l).map (Value.int .u8)).toArray := by
  obtain ⟨zl⟩ := Z
  match zl, hZ with
  | a :: b :: r, h =>
    have hr : r.length = l.length := by simpa using h
    simp [List.setIfInBounds_toArray, hr, List.drop_eq_nil_of_le]
    try omega
set_option maxHeartbeats 4000000 in
set_option maxRecDepth 100000 in
theorem bin_calls (A : Option Addr) (c : Nat) (l : List Int) (p : Int) (w : World) (hr : Kd.C (Kd.int .u8) w A l.length l) (hl : l.length ≤ 1000000) (h0 : l.length ≠ 0) :
    Calls Tryd.prog 36 #[.slice A l.length c, .int .u8 p] w fun e w' => ∃ v, e = .returned (.agg #[.int .u8 9, v]) ∧ Kd.R (Kd.int .u8) 5 w' w.heap.size (fun _ => True) v (16 :: p :: l) ∧ Below w.heap.size w w' := by
  have B0 : ∀ o, Below w.heap.size w (w.alloc o) := fun o => (Below.refl _ w).alloc (Nat.le_refl _) o
  obtain ⟨i0, hi, hzz⟩ := Option.map_eq_some_iff.1 (show (Tryd.prog.info? 5).map (fun i => (i.zero, i.size, i.bytes)) = some (some (.int .u8 0), 1, 1) by kernel_rfl)
  simp only [Prod.mk.injEq] at hzz
  obtain ⟨m, hm⟩ : ∃ m, m = l.length + 2 := ⟨_, rfl⟩
  obtain ⟨Z, hZ⟩ : ∃ Z, Z = madeCells #[.int .u8 0] m := ⟨_, rfl⟩
  have hmk : ∀ W, (Instr.makeSlice 22 (.int .i64 ((l.length : Int) + 2)) (.int .i64 ((l.length : Int) + 2))).run Tryd.prog W = .ok (.slice (some ⟨W.heap.size, 0, none⟩) m m) (W.alloc (.cells Z 5)) := fun W => by
    have := run_makeSlice (P := Tryd.prog) (w := W) 22 5 i0 (.int .u8 0) Tryd.underlying22 hi hzz.1 .i64 .i64 ((l.length : Int) + 2) ((l.length : Int) + 2) (by omega) (by omega) (by rw [hzz.2.1]; omega) (by rw [hzz.2.2]; omega) (by omega)
    rw [hzz.2.1, Nat.mul_one, show ((l.length : Int) + 2).toNat = m by omega] at this
    rw [hZ]
    exact this
  have hZs : Z.size = l.length + 2 := by rw [hZ, size_madeCells, hm]
  have z0 : Z[0]? = some (.int .u8 0) := by rw [hZ]; exact madeCells_at m 0 (by omega)
  have z1 : Z[1]? = some (.int .u8 0) := by rw [hZ]; exact madeCells_at m 1 (by omega)
  obtain ⟨ad, rfl, hat⟩ := (Kd.reads_of_C (enc := Value.int .u8) (d := (0 : Int)) (h1 := fun _ => rfl) hr).2.2 (by omega)
  have hc : ∀ j v, (l.map (Value.int .u8))[j]? = some v → w.cell? (ad.add j) = some v := by
    intro j v hv
    rw [List.getElem?_map] at hv
    obtain ⟨x, hx, rfl⟩ := Option.map_eq_some_iff.1 hv
    have := hat j (List.getElem?_eq_some_iff.1 hx).1
    rw [List.getD_eq_getElem?_getD, hx] at this
    exact this
  have B1 : ∀ o o', Below w.heap.size w ((w.alloc o).alloc o') := fun o o' => (B0 o).alloc (by simp) o'
  have hcp : ∀ o, (Builtin.copy_ #[22, 22] 3 #[.slice (some ⟨w.heap.size + 1, 2, none⟩) l.length l.length, .slice (some ad) l.length c]).run Tryd.prog ((w.alloc o).alloc (.cells ((Z.setIfInBounds 0 (.int .u8 16)).setIfInBounds 1 (.int .u8 p)) 5)) = .ok (.int .i64 (l.length : Int)) ((w.alloc o).alloc (.cells ((16 :: p :: l).map (Value.int .u8)).toArray 5)) := fun o => by
    have hs : (w.alloc o).heap.size = w.heap.size + 1 := by simp
    have := run_copy_row (P := Tryd.prog) ((w.alloc o).alloc (.cells ((Z.setIfInBounds 0 (.int .u8 16)).setIfInBounds 1 (.int .u8 p)) 5)) 22 22 3 5 (w.heap.size + 1) 2 l.length l.length ad l.length c ((Z.setIfInBounds 0 (.int .u8 16)).setIfInBounds 1 (.int .u8 p)) 5 (l.map (Value.int .u8)) Tryd.underlying22 (by kernel_rfl) (by rw [← hs]; show ((w.alloc o).heap.push _)[(w.alloc o).heap.size]? = _; exact Array.getElem?_push_size ..) (by rw [List.length_map]; exact (Nat.min_self _).symm)
      (fun j v hv => ((B1 _ _).cell (World.block_lt_of_cell? w _ (hc j v hv))).trans (hc j v hv)) (by simp [hZs]; omega) (fun v hv => by rcases List.mem_map.1 hv with ⟨x, _, rfl⟩; rfl)
    rw [this, ← hs, World.setRow_alloc_new, two_cells Z l p hZs, List.length_map]
    rfl
  have q0 : (0 < m) = True := eq_true (by omega)
  have q1 : (1 < m) = True := eq_true (by omega)
  have r1 : ((1 : Int) < (m : Int)) = True := eq_true (by omega)
  have q2 : (2 ≤ m) = True := eq_true (by omega)
  have r2 : ((2 : Int) ≤ (m : Int)) = True := eq_true (by omega)
  have q3 : (m = 2) = False := eq_false (by omega)
  have HO := Aside0.mk (fun o => made_own (16 :: p :: l) (w.alloc o) w.heap.size (w.heap.size + 1) (by simp) (by simp) (by simp; omega))
  have HM : Aside0 ((16 :: p :: l).length = m) := Aside0.mk (by simp; omega)
  have HB := Aside0.mk B1
  clear hr hzz hi hat hc hZ B1
  go_enter Tryd.func36, Tryd.ntmps36
  go_wp2
  refine bodyPost_ret (v := .agg #[.int .u8 9, .slice (some ⟨w.heap.size + 1, 0, none⟩) (l.length + 2) (l.length + 2)]) (by simp [results, Tryd.results36, go_sem]) rfl ⟨_, rfl, HO.out _, HB.out _ _⟩
theorem madeCells_two : madeCells #[Value.int .u8 0] 2 = #[.int .u8 0, .int .u8 0] := by kernel_rfl
set_option maxHeartbeats 4000000 in
set_option maxRecDepth 100000 in
theorem bin_nil (A : Option Addr) (c : Nat) (p : Int) (w : World) :
    Calls Tryd.prog 36 #[.slice A 0 c, .int .u8 p] w fun e w' => ∃ v, e = .returned (.agg #[.int .u8 9, v]) ∧ Kd.R (Kd.int .u8) 5 w' w.heap.size (fun _ => True) v [16, p] ∧ Below w.heap.size w w' := by
  have B0 : ∀ o, Below w.heap.size w (w.alloc o) := fun o => (Below.refl _ w).alloc (Nat.le_refl _) o
  obtain ⟨i0, hi, hzz⟩ := Option.map_eq_some_iff.1 (show (Tryd.prog.info? 5).map (fun i => (i.zero, i.size, i.bytes)) = some (some (.int .u8 0), 1, 1) by kernel_rfl)
  simp only [Prod.mk.injEq] at hzz
  have hmk : ∀ W, (Instr.makeSlice 22 (.int .i64 2) (.int .i64 2)).run Tryd.prog W = .ok (.slice (some ⟨W.heap.size, 0, none⟩) 2 2) (W.alloc (.cells #[.int .u8 0, .int .u8 0] 5)) := fun W => by
    have := run_makeSlice (P := Tryd.prog) (w := W) 22 5 i0 (.int .u8 0) Tryd.underlying22 hi hzz.1 .i64 .i64 2 2 (by omega) (by omega) (by rw [hzz.2.1]; omega) (by rw [hzz.2.2]; omega) (by omega)
    rw [hzz.2.1, show (2 : Int).toNat * 1 = 2 from rfl] at this
    exact this.trans (by rw [← madeCells_two]; rfl)
  have hcp : ∀ (d : Option Addr) (k : Nat) (W : World), (Builtin.copy_ #[22, 22] 3 #[.slice d 0 k, .slice A 0 c]).run Tryd.prog W = .ok (.int .i64 0) W := fun d k W => run_copy_none (P := Tryd.prog) W 22 22 3 5 d A 0 k 0 c Tryd.underlying22 (by kernel_rfl) rfl
  have HO := Aside0.mk (fun o => made_own [16, p] (w.alloc o) w.heap.size (w.heap.size + 1) (by simp) (by simp) (by simp))
  have HB := Aside0.mk (fun o o' => (B0 o).alloc (by simp) o')
  clear hzz hi
  go_enter Tryd.func36, Tryd.ntmps36
  go_wp2
  refine bodyPost_ret (v := .agg #[.int .u8 9, .slice (some ⟨w.heap.size + 1, 0, none⟩) 2 2]) (by simp [results, Tryd.results36, go_sem]) rfl ⟨_, rfl, HO.out _, HB.out _ _⟩
/-- A vector of bits as a binary. -/
theorem bin_any (A : Option Addr) (c : Nat) (l : List Int) (p : Int) (w : World) (hr : Kd.C (Kd.int .u8) w A l.length l) (hl : l.length ≤ 1000000) :
    Calls Tryd.prog 36 #[.slice A l.length c, .int .u8 p] w fun e w' => ∃ v, e = .returned (.agg #[.int .u8 9, v]) ∧ Kd.R (Kd.int .u8) 5 w' w.heap.size (fun _ => True) v (16 :: p :: l) ∧ Below w.heap.size w w' := by
  by_cases h0 : l.length = 0
  · obtain rfl : l = [] := List.length_eq_zero_iff.1 h0
    exact bin_nil A c p w
  · exact bin_calls A c l p w hr hl h0
set_option maxHeartbeats 4000000 in
set_option maxRecDepth 100000 in
theorem pbok_calls (A : Option Addr) (n c : Nat) (p : Int) (w : World) :
    Calls Tryd.prog 28 #[.agg #[.int .u8 16, .slice none 0 0, .slice none 0 0, .slice A n c, .int .u8 p]] w fun e w' => e = .returned (.tuple #[.slice A n c, .int .u8 p, .bool true]) ∧ Below w.heap.size w w' := by
  have B0 : ∀ o, Below w.heap.size w (w.alloc o).drew := fun o => ((Below.refl _ w).alloc (Nat.le_refl _) o).drew
  go_enter Tryd.func28, Tryd.ntmps28
  go_wp2
  go_region
  go_wp2
  refine bodyPost_ret (v := .tuple #[.slice A n c, .int .u8 p, .bool true]) (by simp [results, Tryd.results28, go_sem]) rfl ⟨rfl, B0 _⟩
set_option maxHeartbeats 4000000 in
set_option maxRecDepth 100000 in
theorem pk_calls (A : Option Addr) (n c : Nat) (p : Int) (w : World) :
    Calls Tryd.prog 37 #[.agg #[.int .u8 16, .slice none 0 0, .slice none 0 0, .slice A n c, .int .u8 p]] w fun e w' => e = .returned (.tuple #[.slice A n c, .int .u8 p]) ∧ Below w.heap.size w w' := by
  have B0 : ∀ o, Below w.heap.size w (w.alloc o) := fun o => (Below.refl _ w).alloc (Nat.le_refl _) o
  go_enter Tryd.func37, Tryd.ntmps37
  go_wp2_with (go_at_call 28; refine (pbok_calls _ _ _ _ _).mono ?_; rintro e w2 ⟨rfl, hB2⟩; have HB2 := Aside0.mk hB2; clear hB2)
  go_ret2
  exact ⟨rfl, (B0 _).trans (HB2.out.mono (by simp))⟩
theorem v58_at (w w3 : World) (o : Obj) (hb : Below ((w.alloc o).heap.size + 1) ((w.alloc o).alloc (.cells #[.int .u8 0, .slice none 0 0] 58)) w3) : w3.cell? ⟨w.heap.size + 1, 0, none⟩ = some (.int .u8 0) ∧ w3.cell? ⟨w.heap.size + 1, 1, none⟩ = some (.slice none 0 0) ∧ ∀ j, w3.frozen? ⟨w.heap.size + 1, j, none⟩ = false := by
  have hs : (w.alloc o).heap.size = w.heap.size + 1 := by simp
  have h : ((w.alloc o).alloc (.cells #[.int .u8 0, .slice none 0 0] 58)).heap[w.heap.size + 1]? = some (.cells #[.int .u8 0, .slice none 0 0] 58 (0, 0)) := by rw [← hs]; show ((w.alloc o).heap.push _)[(w.alloc o).heap.size]? = _; exact Array.getElem?_push_size ..
  have h3 := (hb.block (w.heap.size + 1) (by rw [hs]; omega)).trans h
  refine ⟨?_, ?_, fun j => ?_⟩
  · unfold World.cell?; rw [h3]; rfl
  · unfold World.cell?; rw [h3]; rfl
  · unfold World.frozen?; rw [h3]; simp
set_option maxHeartbeats 4000000 in
set_option maxRecDepth 100000 in
/-- (Vector).Binary of a vector of bits. -/
theorem binary_calls (A : Option Addr) (c : Nat) (l : List Int) (p : Int) (w : World) (hr : Kd.C (Kd.int .u8) w A l.length l) (hl : l.length ≤ 1000000) :
    Calls Tryd.prog 22 #[.agg #[.int .u8 16, .slice none 0 0, .slice none 0 0, .slice A l.length c, .int .u8 p]] w fun e w' => ∃ v, e = .returned (.agg #[.int .u8 9, v]) ∧ Kd.R (Kd.int .u8) 5 w' w.heap.size (fun _ => True) v (16 :: p :: l) ∧ Below w.heap.size w w' := by
  have HR := Aside0.mk hr
  clear hr
  have B2 : ∀ o o', Below w.heap.size w ((w.alloc o).alloc o') := fun o o' => ((Below.refl _ w).alloc (Nat.le_refl _) o).alloc (by simp) o'
  go_enter Tryd.func22, Tryd.ntmps22
  go_wp2_with (first | (go_at_call 37; refine (pk_calls _ _ _ _ _).mono ?_; rintro e w2 ⟨rfl, hB2⟩; have HB2 := Aside0.mk (((Below.refl _ _).alloc (Nat.le_refl _) _).trans (hB2.mono (by simp))); clear hB2) | (go_at_call 36; refine (bin_any _ _ l p _ (Kd.C_below HR.out ((B2 _ _).trans (HB2.out.mono (by simp; omega)))) hl).mono ?_; rintro e w3 ⟨v, rfl, hR3, hB3⟩; obtain ⟨A3, c3, rfl⟩ := Kd.R_slice hR3; have HR3 := Aside0.mk hR3; have HB3 := Aside0.mk hB3; have HX := v58_at w w3 _ ((HB2.out.trans (hB3.mono HB2.out.size)).mono (by simp)); have x0 := HX.1; have x1 := HX.2.1; have x2 := HX.2.2; clear HX hR3 hB3) | go_in)
  have HF := (B2 _ _).trans ((HB2.out.trans (HB3.out.mono HB2.out.size)).mono (by simp; omega))
  have hle : w.heap.size ≤ w2.heap.size := ((B2 _ _).trans (HB2.out.mono (by simp; omega))).size
  have hR4 : Kd.R (Kd.int .u8) 5 ((w3.setCell ⟨w.heap.size + 1, 0, none⟩ (.int .u8 9)).setCell ⟨w.heap.size + 1, 1, none⟩ (.slice A3 (16 :: p :: l).length c3)) w.heap.size (fun _ => True) (.slice A3 (16 :: p :: l).length c3) (16 :: p :: l) :=
    Kd.R_mono (Kd.R_far (Kd.R_far (Kd.R_lower (Kd.R_bound HR3.out) hle) (p := ⟨w.heap.size + 1, 0, none⟩) (fun k hk => by have := hk.2.1; have := HB2.out.size; simp at this; show k ≠ w.heap.size + 1; omega) _) (p := ⟨w.heap.size + 1, 1, none⟩) (fun k hk => by have := hk.2.1; have := HB2.out.size; simp at this; show k ≠ w.heap.size + 1; omega) _) (fun _ _ => trivial)
  refine bodyPost_ret (v := .agg #[.int .u8 9, .slice A3 (l.length + 1 + 1) c3]) (by simp [results, Tryd.results22, go_sem, x0, x1]) rfl ⟨_, rfl, hR4, (HF.setCell (p := ⟨w.heap.size + 1, 0, none⟩) (Nat.le_succ _) (.int .u8 9)).setCell (p := ⟨w.heap.size + 1, 1, none⟩) (Nat.le_succ _) (.slice A3 (16 :: p :: l).length c3)⟩
set_option maxHeartbeats 4000000 in
set_option maxRecDepth 100000 in
theorem vb_bad (A : Option Addr) (c : Nat) (l : List Int) (p : Int) (w : World) (hg : LaidV w) (hbad : 7 < p ∨ 0 < p ∧ l.length = 0) :
    Calls Tryd.prog 10 #[.slice A l.length c, .int .u8 p] w fun e w' => e = .returned (.tuple #[.int .i64 0, .slice none 0 0, .bool false]) ∧ Below w.heap.size w w' := by
  have hc : Calls Tryd.prog 21 #[.slice A l.length c, .int .u8 p] w fun e w' => (∃ T q, e = .returned (.tuple #[.agg #[.int .u8 0, .slice none 0 0, .slice none 0 0, .slice none 0 0, .int .u8 0], .iface T q])) ∧ Below w.heap.size w w' := by
    by_cases h7 : 7 < p
    · exact npbv_wide A l.length c p w hg h7
    · obtain ⟨h1, h2⟩ := hbad.resolve_left h7
      rw [h2]
      exact npbv_none A c p w hg (by omega) h1
  go_enter Tryd.func10, Tryd.ntmps10
  go_wp2_with (go_at_call 21; refine hc.mono ?_; rintro e w2 ⟨⟨T, q, rfl⟩, hB2⟩; have HB2 := Aside0.mk hB2; clear hB2)
  refine bodyPost_ret (v := .tuple #[.int .i64 0, .slice none 0 0, .bool false]) (by simp [results, Tryd.results10, go_sem]) rfl ⟨rfl, HB2.out.trans ((Below.refl _ w2).alloc (Nat.le_refl _) _ |>.mono HB2.out.size)⟩
theorem own_f (l : List Int) (hl : l.length ≤ 2000000) : impl_own.f l = some l := by
  unfold impl_own.f
  rw [if_pos (by simp; omega)]
  rfl
set_option maxHeartbeats 4000000 in
set_option maxRecDepth 100000 in
theorem vb_good (A : Option Addr) (c : Nat) (l : List Int) (p : Int) (w : World) (hr : Kd.C (Kd.int .u8) w A l.length l) (hl : l.length ≤ 1000000) (hp : p ≤ 7) (hp0 : ¬ (0 < p ∧ l.length = 0)) :
    Calls Tryd.prog 10 #[.slice A l.length c, .int .u8 p] w fun e w' => ∃ v, e = .returned (.tuple #[.int .i64 9, v, .bool true]) ∧ Kd.R (Kd.int .u8) 5 w' w.heap.size (fun _ => True) v (16 :: p :: l) ∧ Below w.heap.size w w' := by
  have hc := npbv_good A c l p w hr (by omega) hp hp0
  clear hr
  go_enter Tryd.func10, Tryd.ntmps10
  go_wp2_with (first | (go_at_call 21; refine hc.mono ?_; rintro e w2 ⟨v2, rfl, hR2, hB2⟩; obtain ⟨A2, c2, rfl, hc2, hC2⟩ := Kd.R_reads hR2; have HB2 := Aside0.mk hB2; have HC2 := Aside0.mk hC2; clear hB2 hR2 hC2) | (go_at_call 22; refine (binary_calls A2 c2 l p _ (Kd.C_alloc HC2.out _) hl).mono ?_; rintro e w3 ⟨v3, rfl, hR3, hB3⟩; obtain ⟨A3, c3, rfl, hc3, hC3⟩ := Kd.R_reads hR3; have HB3 := Aside0.mk (HB2.out.trans ((((Below.refl _ w2).alloc (Nat.le_refl _) _).trans (hB3.mono (by simp))).mono HB2.out.size)); have HC3 := Aside0.mk hC3; have HC3l := Aside0.mk hc3; clear hB3 hR3 hC3 hc3))
  have hown : ∀ W, Below w3.heap.size w3 W → Calls Tryd.prog 17 #[.slice A3 (16 :: p :: l).length c3] W fun e w' => ∃ v0_ : Value, e = .returned v0_ ∧ Kd.R (Kd.int .u8) 5 w' W.heap.size (fun _ => True) v0_ (16 :: p :: l) ∧ Below W.heap.size W w' := fun W hW => impl_own.calls _ c3 (16 :: p :: l) _ W (Kd.C_below HC3.out hW) HC3l.out (own_f _ (by simp; omega))
  have cn : ∀ (o : Array Value) (j : Nat), (w3.alloc (.cells o 58)).drew.cell? ⟨w3.heap.size, j, none⟩ = o.toList[j]? := fun o j => by
    have h : (w3.alloc (.cells o 58)).heap[w3.heap.size]? = some (.cells o 58 (0, 0)) := by show (w3.heap.push _)[w3.heap.size]? = _; exact Array.getElem?_push_size ..
    show (w3.alloc (.cells o 58)).cell? _ = _
    unfold World.cell?
    rw [h]
    exact (Array.getElem?_toList ..).symm
  have b3 : ∀ o, Below w3.heap.size w3 (w3.alloc o).drew := fun o => ((Below.refl _ w3).alloc (Nat.le_refl _) o).drew
  have l3 : ∀ o, w3.heap.size < (w3.alloc o).drew.heap.size := fun o => by show _ < (w3.heap.push _).size; simp
  go_region_with (go_at_call 17; refine (hown _ ?_).mono ?_; (first | exact b3 _ | exact (Below.refl _ w3).alloc (Nat.le_refl _) _); rintro e w5 ⟨v, rfl, hR, hB5⟩; have y0 := (hB5.cell (p := ⟨w3.heap.size, 0, none⟩) (l3 _)).trans (cn _ 0); have y1 := (hB5.cell (p := ⟨w3.heap.size, 1, none⟩) (l3 _)).trans (cn _ 1); have HR := Aside0.mk hR; have HB5 := Aside0.mk hB5; clear hR hB5)
  all_goals (go_wp2; refine bodyPost_ret (v := .tuple #[.int .i64 9, v, .bool true]) (by simp [results, Tryd.results10, go_sem]; rfl) rfl ⟨v, rfl, Kd.R_lower HR.out (Nat.le_trans HB3.out.size (Nat.le_of_lt (l3 _))), HB3.out.trans (((b3 _).trans (HB5.out.mono (Nat.le_of_lt (l3 _)))).mono HB3.out.size)⟩)

end Go.Proofs.YthlpmeiihchdjaaDoor.Vec
