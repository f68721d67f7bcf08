/- Walks by hand of functions of this seat. Conditions: as each theorem states them. -/
import Derived.Test.YthlpmeiihchdjaaDoorProg
import Derived.Test.YthlpmeiihchdjaaDoorHW
import Derived.Below
import Derived.Deep.Draws
import Derived.OwnWalk
import Derived.Tactics
import Derived.WalkKit
import Derived.KernelRfl
import Derived.RowKit3
import Derived.Deep.LoopGhost
import Derived.Deep.QuietTactic
import Derived.BigQuiet
import Derived.WideLaws
import Derived.Deep.DeepCutAuto
import Derived.Deep.CutBlock
import Derived.Laws.Rows
import Derived.Outline
import Derived.StillTailTactics
import Derived.Deep.RegionHeld3
import Derived.Test.YthlpmeiihchdjaaDoorPZx
import Derived.Deep.RegionWith
import Derived.Test.YthlpmeiihchdjaaDoorVec
import Derived.Test.YthlpmeiihchdjaaDoorVnb
import Derived.Test.YthlpmeiihchdjaaDoorPL
namespace Go.Proofs.YthlpmeiihchdjaaDoor.Vof
open Go.RowKit Go.Proofs.YthlpmeiihchdjaaDoorW.PrintWords Go.Proofs.YthlpmeiihchdjaaDoorW.PrintLast Go.Proofs.YthlpmeiihchdjaaDoorW.PrintMore
set_option linter.unusedVariables false
set_option linter.unusedSimpArgs false
open Go.Lib Go.Proofs.YthlpmeiihchdjaaDoor.PL Go.Proofs.YthlpmeiihchdjaaDoor.PZ Go.Proofs.YthlpmeiihchdjaaDoor.Vec Go.Proofs.YthlpmeiihchdjaaDoor.Vnb
theorem vo_at (W w3 : World) (a b d e : Obj) (Z : Array Value) (hb : Below (((((W.alloc a).alloc b).alloc (.cells Z 32)).alloc d).alloc e).heap.size (((((W.alloc a).alloc b).alloc (.cells Z 32)).alloc d).alloc e) w3) :
    Below W.heap.size W w3 ∧ W.heap.size + 5 ≤ w3.heap.size ∧ w3.heap[W.heap.size + 1 + 1]? = some (.cells Z 32 (0, 0)) := by
  have s2 : ((W.alloc a).alloc b).heap.size = W.heap.size + 1 + 1 := by simp
  have h0 : (((W.alloc a).alloc b).alloc (.cells Z 32)).heap[W.heap.size + 1 + 1]? = some (.cells Z 32 (0, 0)) := by rw [← s2]; show (((W.alloc a).alloc b).heap.push _)[((W.alloc a).alloc b).heap.size]? = _; exact Array.getElem?_push_size ..
  have hb2 := (((Below.refl _ (((W.alloc a).alloc b).alloc (.cells Z 32))).alloc (Nat.le_refl _) d).alloc (by simp) e).trans (hb.mono (by simp))
  have h3 := (hb2.block (W.heap.size + 1 + 1) (by simp)).trans h0
  have h5 := hb.size
  refine ⟨?_, by simp at h5; omega, h3⟩
  exact (((Below.refl _ W).alloc (Nat.le_refl _) a).alloc (by simp) b).alloc (by simp; omega) _ |>.trans (hb2.mono (by simp; omega))
theorem cells_at {w5 : World} {g : Nat} {Z : Array Value} {t : Nat} (h3 : w5.heap[g]? = some (.cells Z t (0, 0))) (j : Nat) : w5.cell? ⟨g, j, none⟩ = Z.toList[j]? ∧ w5.frozen? ⟨g, j, none⟩ = false := by
  refine ⟨?_, ?_⟩
  · unfold World.cell?; rw [h3]; exact (Array.getElem?_toList ..).symm
  · unfold World.frozen?; rw [h3]; simp
theorem z32_blk (w w5 : World) (Z : Array Value) (hb : Below (w.alloc (.cells Z 32)).heap.size (w.alloc (.cells Z 32)) w5) : w5.heap[w.heap.size]? = some (.cells Z 32 (0, 0)) := by
  have h : (w.alloc (.cells Z 32)).heap[w.heap.size]? = some (.cells Z 32 (0, 0)) := by show (w.heap.push _)[w.heap.size]? = _; exact Array.getElem?_push_size ..
  exact (hb.block w.heap.size (by show _ < (w.heap.push _).size; simp)).trans h
set_option maxHeartbeats 4000000 in
set_option maxRecDepth 100000 in
theorem vo_good (A : Option Addr) (c : Nat) (l : List Int) (p : Int) (w : World) (hr : Kd.C (Kd.int .u8) w A (16 :: p :: l).length (16 :: p :: l)) (hc : (16 :: p :: l).length ≤ c) (hl : l.length ≤ 1000000) (hp : p ≤ 7) (hpn : 0 ≤ p) (hp0 : ¬ (0 < p ∧ l.length = 0)) :
    Calls Tryd.prog 11 #[.int .i64 9, .slice A (l.length + 1 + 1) c] w fun e w' => ∃ v, e = .returned (.tuple #[.agg #[.int .i64 16, .slice none 0 0, .slice none 0 0, v, .int .i64 p], .bool true]) ∧ Kd.R (Kd.int .u8) 5 w' w.heap.size (fun _ => True) v l ∧ Below w.heap.size w w' := by
  have B0 : ∀ o, Below w.heap.size w (w.alloc o) := fun o => (Below.refl _ w).alloc (Nat.le_refl _) o
  have hn := fun W hW => nvfb_good A c l p W (Kd.C_below (w1 := W) hr hW) hc hl hp hp0
  have hwp : IntKind.i64.wrap p = p := by simp [IntKind.wrap, IntKind.bits, IntKind.signed]; omega
  clear hr
  go_enter Tryd.func11, Tryd.ntmps11
  go_wp2_with (first | (go_at_call 23; refine (hn _ (B0 _)).mono ?_; rintro e w2 ⟨v, rfl, hR, hB⟩; obtain ⟨A2, c2, rfl, hc2, hC2⟩ := Kd.R_reads hR; have HZ := Aside0.mk (z32_blk _ _ _ hB); have HB := Aside0.mk hB; have HC2 := Aside0.mk hC2; have HC2l := Aside0.mk hc2; clear hB hR hC2 hc2) | (go_at_call 28; refine (pbok_calls _ _ _ _ _).mono ?_; rintro e w3 ⟨rfl, hB3⟩; have HB3 := Aside0.mk (vo_at _ _ _ _ _ _ _ hB3); clear hB3) | (go_at_call 24; go_in) | (go_at_call 25; go_in) | (go_at_call 26; go_in))
  obtain ⟨hB23, hs3, hz3⟩ := HB3.out
  refine (impl_own.calls A2 c2 l l _ (Kd.C_below HC2.out hB23) HC2l.out (own_f l (by omega))).mono ?_
  rintro e w4 ⟨v4, rfl, hR4, hB4⟩
  obtain ⟨A4, c4, rfl⟩ := Kd.R_slice hR4
  have hs2 : w.heap.size + 1 ≤ w2.heap.size := by have := HB.out.size; simpa using this
  have hz4 := (hB4.block (w2.heap.size + 1 + 1) (by omega)).trans hz3
  have hy4 := (hB4.block w.heap.size (by omega)).trans ((hB23.block w.heap.size (by omega)).trans HZ.out)
  have x0 := (cells_at hz4 0).1
  have x1 := (cells_at hz4 1).1
  have x2 := (cells_at hz4 2).1
  have x3 := (cells_at hz4 3).1
  have x4 := (cells_at hz4 4).1
  have f0 := (cells_at hz4 0).2
  have f1 := (cells_at hz4 1).2
  have f2 := (cells_at hz4 2).2
  have f3 := (cells_at hz4 3).2
  have f4 := (cells_at hz4 4).2
  have y0 := (cells_at hy4 0).1
  have y1 := (cells_at hy4 1).1
  have y2 := (cells_at hy4 2).1
  have y3 := (cells_at hy4 3).1
  have y4 := (cells_at hy4 4).1
  have g0 := (cells_at hy4 0).2
  have g1 := (cells_at hy4 1).2
  have g2 := (cells_at hy4 2).2
  have g3 := (cells_at hy4 3).2
  have g4 := (cells_at hy4 4).2
  have HX := Aside0.mk (And.intro hB23 (And.intro hs3 (And.intro hB4 (And.intro hR4 hs2))))
  have hne : (w.heap.size = w2.heap.size + 1 + 1) = False := eq_false (by omega)
  have hne2 : (w2.heap.size + 1 + 1 = w.heap.size) = False := eq_false (by omega)
  clear hz3 hs3 hB23 hz4 hy4 hB4 hR4 hs2 HB3
  go_wp2
  obtain ⟨hB23, hs3, hB4, hR4, hs2⟩ := HX.out
  have hb0 : w.heap.size ≤ w3.heap.size := by omega
  have k2 : ∀ k, (True ∧ w3.heap.size ≤ k ∧ k < w4.heap.size ∧ ∃ q, q ∈ 5 :: (Kd.int .u8).E ∧ ∃ cells, w4.heap[k]? = some (.cells cells q (0, 0))) → k ≠ w2.heap.size + 1 + 1 := fun k hk => by have := hk.2.1; omega
  have k0 : ∀ k, (True ∧ w3.heap.size ≤ k ∧ k < w4.heap.size ∧ ∃ q, q ∈ 5 :: (Kd.int .u8).E ∧ ∃ cells, w4.heap[k]? = some (.cells cells q (0, 0))) → k ≠ w.heap.size := fun k hk => by have := hk.2.1; omega
  have hbw : Below w.heap.size w w4 := ((B0 _).trans (HB.out.mono (by simp))).trans ((hB23.mono (by omega)).trans (hB4.mono (by omega)))
  refine bodyPost_ret (v := .tuple #[.agg #[.int .i64 16, .slice none 0 0, .slice none 0 0, .slice A4 l.length c4, .int .i64 p], .bool true]) (by simp [results, Tryd.results11, go_sem, y0, y1, y2, y3, y4]) rfl ⟨.slice A4 l.length c4, rfl, ?_, ?_⟩
  · exact Kd.R_mono (Kd.R_far (Kd.R_far (Kd.R_far (Kd.R_far (Kd.R_far (Kd.R_far (Kd.R_far (Kd.R_lower (Kd.R_bound hR4) hb0) (p := ⟨w2.heap.size + 1 + 1, 3, none⟩) k2 (.slice A4 l.length c4)) (p := ⟨w2.heap.size + 1 + 1, 4, none⟩) k2 (.int .i64 p)) (p := ⟨w.heap.size, 0, none⟩) k0 (.int .i64 16)) (p := ⟨w.heap.size, 1, none⟩) k0 (.slice none 0 0)) (p := ⟨w.heap.size, 2, none⟩) k0 (.slice none 0 0)) (p := ⟨w.heap.size, 3, none⟩) k0 (.slice A4 l.length c4)) (p := ⟨w.heap.size, 4, none⟩) k0 (.int .i64 p)) (fun _ _ => trivial)
  · exact (((((((hbw.setCell (p := ⟨w2.heap.size + 1 + 1, 3, none⟩) (by show _ ≤ w2.heap.size + 1 + 1; omega) (.slice A4 l.length c4)).setCell (p := ⟨w2.heap.size + 1 + 1, 4, none⟩) (by show _ ≤ w2.heap.size + 1 + 1; omega) (.int .i64 p)).setCell (p := ⟨w.heap.size, 0, none⟩) (Nat.le_refl _) (.int .i64 16)).setCell (p := ⟨w.heap.size, 1, none⟩) (Nat.le_refl _) (.slice none 0 0)).setCell (p := ⟨w.heap.size, 2, none⟩) (Nat.le_refl _) (.slice none 0 0)).setCell (p := ⟨w.heap.size, 3, none⟩) (Nat.le_refl _) (.slice A4 l.length c4)).setCell (p := ⟨w.heap.size, 4, none⟩) (Nat.le_refl _) (.int .i64 p))

end Go.Proofs.YthlpmeiihchdjaaDoor.Vof
