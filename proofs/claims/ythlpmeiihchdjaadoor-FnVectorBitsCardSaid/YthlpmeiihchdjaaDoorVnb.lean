/- Walks by hand of functions of this seat. Conditions: as each theorem states them. -/
import Derived.Test.YthlpmeiihchdjaaDoorProg
import Derived.Test.YthlpmeiihchdjaaDoorHW
import Derived.Below
import Derived.Deep.Draws
import Derived.OwnWalk
import Derived.Tactics
import Derived.WalkKit
import Derived.KernelRfl
import Derived.RowKit3
import Derived.Deep.LoopGhost
import Derived.Deep.QuietTactic
import Derived.BigQuiet
import Derived.WideLaws
import Derived.Deep.DeepCutAuto
import Derived.Deep.CutBlock
import Derived.Laws.Rows
import Derived.Outline
import Derived.StillTailTactics
import Derived.Deep.RegionHeld3
import Derived.Test.YthlpmeiihchdjaaDoorPZx
import Derived.Deep.RegionWith
import Derived.Test.YthlpmeiihchdjaaDoorVec
import Derived.Test.YthlpmeiihchdjaaDoorPL
namespace Go.Proofs.YthlpmeiihchdjaaDoor.Vnb
open Go.RowKit Go.Proofs.YthlpmeiihchdjaaDoorW.PrintWords Go.Proofs.YthlpmeiihchdjaaDoorW.PrintLast Go.Proofs.YthlpmeiihchdjaaDoorW.PrintMore
set_option linter.unusedVariables false
set_option linter.unusedSimpArgs false
open Go.Lib Go.Proofs.YthlpmeiihchdjaaDoor.PL Go.Proofs.YthlpmeiihchdjaaDoor.PZ Go.Proofs.YthlpmeiihchdjaaDoor.Vec
set_option maxHeartbeats 4000000 in
set_option maxRecDepth 100000 in
theorem nbv_good (A : Option Addr) (c : Nat) (l : List Int) (p : Int) (w : World) (hr : Kd.C (Kd.int .u8) w A (p :: l).length (p :: l)) (hc : (p :: l).length ≤ c) (hl : l.length ≤ 1000000) (hp : p ≤ 7) (hp0 : ¬ (0 < p ∧ l.length = 0)) :
    Calls Tryd.prog 41 #[.slice A (l.length + 1) c] w fun e w' => ∃ v, e = .returned (.tuple #[.agg #[.int .u8 16, .slice none 0 0, .slice none 0 0, v, .int .u8 p], .nilIface]) ∧ Kd.R (Kd.int .u8) 5 w' w.heap.size (fun _ => True) v l ∧ Below w.heap.size w w' := by
  obtain ⟨i0, hi, hz0⟩ := Option.map_eq_some_iff.1 (show (Tryd.prog.info? 5).map (fun i => (i.zero, i.size, i.bytes)) = some (some (.int .u8 0), 1, 1) by kernel_rfl)
  simp only [Prod.mk.injEq] at hz0
  have hcl : l.length + 1 ≤ c := hc
  have hcut := cut_from (P := Tryd.prog) 22 5 .i64 Tryd.underlying22 hi 1 hz0.2.1 A (l.length + 1) c 1 (by omega) (by omega)
  obtain ⟨A1, hA1⟩ : ∃ A1, A1 = (if c = 1 then A else Option.map (fun x => x.add (1 * (Kd.int IntKind.u8).sz)) A) := ⟨_, rfl⟩
  have hdrop : Kd.C (Kd.int .u8) w A1 l.length l := by
    have := Kd.C_drop (m := 1) hr (by simp) hc
    rw [← hA1] at this
    exact this
  have hcut2 : ∀ W, (Instr.slice 22 (.slice A (l.length + 1) c) (some (.int .i64 1)) none none).run Tryd.prog W = .ok (.slice A1 l.length (c - 1)) W := fun W => by
    rw [hA1]
    exact hcut W
  clear hcut hA1
  have hget : ∃ ad, A = some ad ∧ w.cell? ad = some (.int .u8 p) := by
    obtain ⟨ad, e, h⟩ := (Kd.reads_of_C (enc := Value.int .u8) (d := (0 : Int)) (h1 := fun _ => rfl) hr).2.2 (by simp)
    exact ⟨ad, e, by have := h 0 (by simp); simpa [Addr.add] using this⟩
  obtain ⟨ad, rfl, h0⟩ := hget
  have B0 : ∀ o, Below w.heap.size w (w.alloc o) := fun o => (Below.refl _ w).alloc (Nat.le_refl _) o
  have h1 : ∀ o, (w.alloc o).cell? ad = some (.int .u8 p) := fun o => ((B0 o).cell (World.block_lt_of_cell? w _ h0)).trans h0
  have hn := fun W hW => npbv_good A1 (c - 1) l p W (Kd.C_below (w1 := W) hdrop hW) (by omega) hp hp0
  have hne : ((l.length : Int) + 1 = 0) = False := eq_false (by omega)
  have HD := Aside0.mk hdrop
  clear hr hdrop
  go_enter Tryd.func41, Tryd.ntmps41
  go_wp2
  have b3 : ∀ o, Below w.heap.size w (w.alloc o).drew := fun o => (B0 o).drew
  have cn : ∀ (o : Array Value) (j : Nat), (w.alloc (.cells o 54)).drew.cell? ⟨w.heap.size, j, none⟩ = o.toList[j]? ∧ (w.alloc (.cells o 54)).drew.frozen? ⟨w.heap.size, j, none⟩ = false := fun o j => by
    have h : (w.alloc (.cells o 54)).heap[w.heap.size]? = some (.cells o 54 (0, 0)) := by show (w.heap.push _)[w.heap.size]? = _; exact Array.getElem?_push_size ..
    constructor
    · show (w.alloc (.cells o 54)).cell? _ = _
      unfold World.cell?
      rw [h]
      exact (Array.getElem?_toList ..).symm
    · show (w.alloc (.cells o 54)).frozen? _ = _
      unfold World.frozen?
      rw [h]
      simp
  have l3 : ∀ o, w.heap.size < (w.alloc o).drew.heap.size := fun o => by show _ < (w.heap.push _).size; simp
  go_region_with (go_at_call 21; refine (hn _ ?_).mono ?_; (first | exact b3 _ | exact B0 _); rintro e w5 ⟨v, rfl, hR, hB5⟩; obtain ⟨A5, c5, rfl⟩ := Kd.R_slice hR; have y0 := (hB5.cell (p := ⟨w.heap.size, 0, none⟩) (l3 _)).trans (cn _ 0).1; have y1 := (hB5.cell (p := ⟨w.heap.size, 1, none⟩) (l3 _)).trans (cn _ 1).1; have y2 := (hB5.cell (p := ⟨w.heap.size, 2, none⟩) (l3 _)).trans (cn _ 2).1; have y3 := (hB5.cell (p := ⟨w.heap.size, 3, none⟩) (l3 _)).trans (cn _ 3).1; have y4 := (hB5.cell (p := ⟨w.heap.size, 4, none⟩) (l3 _)).trans (cn _ 4).1; have x0 := (hB5.frozen (p := ⟨w.heap.size, 0, none⟩) (l3 _)).trans (cn _ 0).2; have x1 := (hB5.frozen (p := ⟨w.heap.size, 1, none⟩) (l3 _)).trans (cn _ 1).2; have x2 := (hB5.frozen (p := ⟨w.heap.size, 2, none⟩) (l3 _)).trans (cn _ 2).2; have x3 := (hB5.frozen (p := ⟨w.heap.size, 3, none⟩) (l3 _)).trans (cn _ 3).2; have x4 := (hB5.frozen (p := ⟨w.heap.size, 4, none⟩) (l3 _)).trans (cn _ 4).2; have HR := Aside0.mk hR; have HB5 := Aside0.mk hB5; clear hR hB5)
  all_goals (go_wp2; refine bodyPost_ret (v := .tuple #[.agg #[.int .u8 16, .slice none 0 0, .slice none 0 0, .slice A5 l.length c5, .int .u8 p], .nilIface]) (by simp [results, Tryd.results41, go_sem, y0, y1, y2, y3, y4]) rfl ⟨.slice A5 l.length c5, rfl, Kd.R_mono (Kd.R_far (Kd.R_far (Kd.R_far (Kd.R_far (Kd.R_far (Kd.R_lower (Kd.R_bound HR.out) (Nat.le_of_lt (l3 _))) (p := ⟨w.heap.size, 0, none⟩) (fun k hk => by have := hk.2.1; have := l3 (.cells #[] 54); simp at *; omega) (.int .u8 16)) (p := ⟨w.heap.size, 1, none⟩) (fun k hk => by have := hk.2.1; have := l3 (.cells #[] 54); simp at *; omega) (.slice none 0 0)) (p := ⟨w.heap.size, 2, none⟩) (fun k hk => by have := hk.2.1; have := l3 (.cells #[] 54); simp at *; omega) (.slice none 0 0)) (p := ⟨w.heap.size, 3, none⟩) (fun k hk => by have := hk.2.1; have := l3 (.cells #[] 54); simp at *; omega) (.slice A5 l.length c5)) (p := ⟨w.heap.size, 4, none⟩) (fun k hk => by have := hk.2.1; have := l3 (.cells #[] 54); simp at *; omega) (.int .u8 p)) (fun _ _ => trivial), (((((((b3 _).trans (HB5.out.mono (Nat.le_of_lt (l3 _)))).setCell (p := ⟨w.heap.size, 0, none⟩) (Nat.le_refl _) (.int .u8 16)).setCell (p := ⟨w.heap.size, 1, none⟩) (Nat.le_refl _) (.slice none 0 0)).setCell (p := ⟨w.heap.size, 2, none⟩) (Nat.le_refl _) (.slice none 0 0)).setCell (p := ⟨w.heap.size, 3, none⟩) (Nat.le_refl _) (.slice A5 l.length c5)).setCell (p := ⟨w.heap.size, 4, none⟩) (Nat.le_refl _) (.int .u8 p))⟩)
theorem z54_at (w w5 : World) (o o2 : Obj) (Z : Array Value) (hb : Below (((w.alloc o).alloc (.cells Z 54)).alloc o2).heap.size (((w.alloc o).alloc (.cells Z 54)).alloc o2) w5) (j : Nat) : w5.cell? ⟨w.heap.size + 1, j, none⟩ = Z.toList[j]? ∧ w5.frozen? ⟨w.heap.size + 1, j, none⟩ = false := by
  have hs : (w.alloc o).heap.size = w.heap.size + 1 := by simp
  have h : ((w.alloc o).alloc (.cells Z 54)).heap[w.heap.size + 1]? = some (.cells Z 54 (0, 0)) := by rw [← hs]; show ((w.alloc o).heap.push _)[(w.alloc o).heap.size]? = _; exact Array.getElem?_push_size ..
  have hb2 := ((Below.refl _ ((w.alloc o).alloc (.cells Z 54))).alloc (Nat.le_refl _) o2).trans (hb.mono (by simp))
  have h3 := (hb2.block (w.heap.size + 1) (by show _ < ((w.alloc o).heap.push _).size; simp)).trans h
  refine ⟨?_, ?_⟩
  · unfold World.cell?; rw [h3]; exact (Array.getElem?_toList ..).symm
  · unfold World.frozen?; rw [h3]; simp
set_option maxHeartbeats 4000000 in
set_option maxRecDepth 100000 in
theorem nvfb_good (A : Option Addr) (c : Nat) (l : List Int) (p : Int) (w : World) (hr : Kd.C (Kd.int .u8) w A (16 :: p :: l).length (16 :: p :: l)) (hc : (16 :: p :: l).length ≤ c) (hl : l.length ≤ 1000000) (hp : p ≤ 7) (hp0 : ¬ (0 < p ∧ l.length = 0)) :
    Calls Tryd.prog 23 #[.agg #[.int .u8 9, .slice A (l.length + 1 + 1) c]] w fun e w' => ∃ v, e = .returned (.tuple #[.agg #[.int .u8 16, .slice none 0 0, .slice none 0 0, v, .int .u8 p], .nilIface]) ∧ Kd.R (Kd.int .u8) 5 w' w.heap.size (fun _ => True) v l ∧ Below w.heap.size w w' := by
  obtain ⟨i0, hi, hz0⟩ := Option.map_eq_some_iff.1 (show (Tryd.prog.info? 5).map (fun i => (i.zero, i.size, i.bytes)) = some (some (.int .u8 0), 1, 1) by kernel_rfl)
  simp only [Prod.mk.injEq] at hz0
  have hcl : l.length + 1 + 1 ≤ c := hc
  have hcut := cut_from (P := Tryd.prog) 22 5 .i64 Tryd.underlying22 hi 1 hz0.2.1 A (l.length + 1 + 1) c 1 (by omega) (by omega)
  obtain ⟨A1, hA1⟩ : ∃ A1, A1 = (if c = 1 then A else Option.map (fun x => x.add (1 * (Kd.int IntKind.u8).sz)) A) := ⟨_, rfl⟩
  have hdrop : Kd.C (Kd.int .u8) w A1 (p :: l).length (p :: l) := by
    have := Kd.C_drop (m := 1) hr (by simp) hc
    rw [← hA1] at this
    exact this
  have hcut2 : ∀ W, (Instr.slice 22 (.slice A (l.length + 1 + 1) c) (some (.int .i64 1)) none none).run Tryd.prog W = .ok (.slice A1 (l.length + 1) (c - 1)) W := fun W => by
    rw [hA1]
    exact hcut W
  clear hcut hA1
  have hget : ∃ ad, A = some ad ∧ w.cell? ad = some (.int .u8 16) := by
    obtain ⟨ad, e, h⟩ := (Kd.reads_of_C (enc := Value.int .u8) (d := (0 : Int)) (h1 := fun _ => rfl) hr).2.2 (by simp)
    exact ⟨ad, e, by have := h 0 (by simp); simpa [Addr.add] using this⟩
  obtain ⟨ad, rfl, h0⟩ := hget
  have B0 : ∀ o o1 o2, Below w.heap.size w (((w.alloc o).alloc o1).alloc o2) := fun o o1 o2 => (((Below.refl _ w).alloc (Nat.le_refl _) o).alloc (by simp) o1).alloc (by simp; omega) o2
  have h1 : ∀ o o1 o2, (((w.alloc o).alloc o1).alloc o2).cell? ad = some (.int .u8 16) := fun o o1 o2 => ((B0 o o1 o2).cell (World.block_lt_of_cell? w _ h0)).trans h0
  have hn := fun W hW => nbv_good A1 (c - 1) l p W (Kd.C_below (w1 := W) hdrop hW) (by simp; omega) hl hp hp0
  have hne : ((l.length : Int) + 1 + 1 < 2) = False := eq_false (by omega)
  clear hr hdrop hz0 hi
  go_enter Tryd.func23, Tryd.ntmps23
  go_wp2_with (go_at_call 41; refine (hn _ (B0 _ _ _)).mono ?_; rintro e w5 ⟨v, rfl, hR, hB5⟩; obtain ⟨A5, c5, rfl⟩ := Kd.R_slice hR; have zz := z54_at w w5 _ _ _ hB5; have y0 := (zz 0).1; have x0 := (zz 0).2; have y1 := (zz 1).1; have x1 := (zz 1).2; have y2 := (zz 2).1; have x2 := (zz 2).2; have y3 := (zz 3).1; have x3 := (zz 3).2; have y4 := (zz 4).1; have x4 := (zz 4).2; clear zz; have HR := Aside0.mk hR; have HB5 := Aside0.mk hB5; clear hR hB5)
  refine bodyPost_ret (v := .tuple #[.agg #[.int .u8 16, .slice none 0 0, .slice none 0 0, .slice A5 l.length c5, .int .u8 p], .nilIface]) (by simp [results, Tryd.results23, go_sem, y0, y1, y2, y3, y4]) rfl ⟨.slice A5 l.length c5, rfl, Kd.R_mono (Kd.R_far (Kd.R_far (Kd.R_far (Kd.R_far (Kd.R_far (Kd.R_lower (Kd.R_bound HR.out) (B0 _ _ _).size) (p := ⟨w.heap.size + 1, 0, none⟩) (fun k hk => by have := hk.2.1; simp at this; show k ≠ w.heap.size + 1; omega) (.int .u8 16)) (p := ⟨w.heap.size + 1, 1, none⟩) (fun k hk => by have := hk.2.1; simp at this; show k ≠ w.heap.size + 1; omega) (.slice none 0 0)) (p := ⟨w.heap.size + 1, 2, none⟩) (fun k hk => by have := hk.2.1; simp at this; show k ≠ w.heap.size + 1; omega) (.slice none 0 0)) (p := ⟨w.heap.size + 1, 3, none⟩) (fun k hk => by have := hk.2.1; simp at this; show k ≠ w.heap.size + 1; omega) (.slice A5 l.length c5)) (p := ⟨w.heap.size + 1, 4, none⟩) (fun k hk => by have := hk.2.1; simp at this; show k ≠ w.heap.size + 1; omega) (.int .u8 p)) (fun _ _ => trivial), (((((((B0 _ _ _).trans (HB5.out.mono (B0 _ _ _).size)).setCell (p := ⟨w.heap.size + 1, 0, none⟩) (Nat.le_succ _) (.int .u8 16)).setCell (p := ⟨w.heap.size + 1, 1, none⟩) (Nat.le_succ _) (.slice none 0 0)).setCell (p := ⟨w.heap.size + 1, 2, none⟩) (Nat.le_succ _) (.slice none 0 0)).setCell (p := ⟨w.heap.size + 1, 3, none⟩) (Nat.le_succ _) (.slice A5 l.length c5)).setCell (p := ⟨w.heap.size + 1, 4, none⟩) (Nat.le_succ _) (.int .u8 p))⟩

end Go.Proofs.YthlpmeiihchdjaaDoor.Vnb
