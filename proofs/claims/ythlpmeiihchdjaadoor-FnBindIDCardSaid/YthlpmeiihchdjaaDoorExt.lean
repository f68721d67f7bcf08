/- Walks by hand of functions of this seat. Conditions: as each theorem states them. -/
import Derived.Test.YthlpmeiihchdjaaDoorProg
import Derived.Test.YthlpmeiihchdjaaDoorHW
import Derived.Below
import Derived.Deep.Draws
import Derived.OwnWalk
import Derived.Tactics
import Derived.WalkKit
import Derived.KernelRfl
import Derived.RowKit3
import Derived.Deep.LoopGhost
import Derived.Deep.QuietTactic
import Derived.BigQuiet
import Derived.WideLaws
import Derived.Deep.DeepCutAuto
import Derived.Deep.CutBlock
import Derived.Laws.Rows
import Derived.Outline
import Derived.StillTailTactics
import Derived.Deep.RegionHeld3
import Derived.Test.YthlpmeiihchdjaaDoorOid
import Derived.Test.YthlpmeiihchdjaaDoorPZx
import Derived.Deep.RegionWith
namespace Go.Proofs.YthlpmeiihchdjaaDoor.Ext
open Go.RowKit Go.Proofs.YthlpmeiihchdjaaDoorW.PrintWords Go.Proofs.YthlpmeiihchdjaaDoorW.PrintLast Go.Proofs.YthlpmeiihchdjaaDoorW.PrintMore
set_option linter.unusedVariables false
set_option linter.unusedSimpArgs false
open Go.Lib Go.Proofs.YthlpmeiihchdjaaDoor.Oid Go.Proofs.YthlpmeiihchdjaaDoor.PZ
theorem hta (s : ByteArray) (W : World) : (Instr.typeAssert (.iface 9 (.string s)) 20 9 false).run Tryd.prog W = .ok (.string s) W := by kernel_rfl
/-- How a call ends that reads an identifier. -/
def IdOut (l : List UInt8) (w : World) (e : Ending) (w' : World) : Prop := ∃ b0 b1 b2 b3 b4 b5 b6 b7 b8 b9 b10 b11 ev, e = .returned (.tuple #[.agg #[.int .u8 b0, .int .u8 b1, .int .u8 b2, .int .u8 b3, .int .u8 b4, .int .u8 b5, .int .u8 b6, .int .u8 b7, .int .u8 b8, .int .u8 b9, .int .u8 b10, .int .u8 b11], ev]) ∧ idBytes l = [b0, b1, b2, b3, b4, b5, b6, b7, b8, b9, b10, b11] ∧ (ev = .nilIface ∧ idGood l = true ∨ (∃ T p, ev = .iface T p) ∧ idGood l = false) ∧ Below w.heap.size w w'
theorem z12_at (w w2 : World) (hb : Below (w.alloc (.cells #[.int .u8 0, .int .u8 0, .int .u8 0, .int .u8 0, .int .u8 0, .int .u8 0, .int .u8 0, .int .u8 0, .int .u8 0, .int .u8 0, .int .u8 0, .int .u8 0] 44)).heap.size (w.alloc (.cells #[.int .u8 0, .int .u8 0, .int .u8 0, .int .u8 0, .int .u8 0, .int .u8 0, .int .u8 0, .int .u8 0, .int .u8 0, .int .u8 0, .int .u8 0, .int .u8 0] 44)) w2) (j : Nat) (hj : j < 12) : w2.cell? ⟨w.heap.size, j, none⟩ = some (.int .u8 0) ∧ w2.frozen? ⟨w.heap.size, j, none⟩ = false := by
  refine ⟨(hb.cell (p := ⟨w.heap.size, j, none⟩) (by simp)).trans ?_, (hb.frozen (p := ⟨w.heap.size, j, none⟩) (by simp)).trans ?_⟩
  · have : j = 0 ∨ j = 1 ∨ j = 2 ∨ j = 3 ∨ j = 4 ∨ j = 5 ∨ j = 6 ∨ j = 7 ∨ j = 8 ∨ j = 9 ∨ j = 10 ∨ j = 11 := by omega
    rcases this with rfl | rfl | rfl | rfl | rfl | rfl | rfl | rfl | rfl | rfl | rfl | rfl <;> go_simp
  · have : j = 0 ∨ j = 1 ∨ j = 2 ∨ j = 3 ∨ j = 4 ∨ j = 5 ∨ j = 6 ∨ j = 7 ∨ j = 8 ∨ j = 9 ∨ j = 10 ∨ j = 11 := by omega
    rcases this with rfl | rfl | rfl | rfl | rfl | rfl | rfl | rfl | rfl | rfl | rfl | rfl <;> go_simp
set_option maxHeartbeats 4000000 in
set_option maxRecDepth 100000 in
theorem parse_calls (g : Nat) (s : ByteArray) (w : World) (hg : Laid0 w) (c0 : w.cell? ⟨g, 0, none⟩ = some (.int .u8 2)) (c1 : w.cell? ⟨g, 1, none⟩ = some (.iface 9 (.string s))) : Calls Tryd.prog 29 #[.pointer (some ⟨g, 0, none⟩)] w (IdOut s.data.toList w) := by
  have HG := Aside0.mk hg
  clear hg
  have ht := hta s
  have B0 : ∀ o, Below w.heap.size w (w.alloc o) := fun o => (Below.refl _ w).alloc (Nat.le_refl _) o
  have d0 : ∀ o, (w.alloc o).cell? ⟨g, 0, none⟩ = some (.int .u8 2) := fun o => ((B0 o).cell (p := ⟨g, 0, none⟩) (World.block_lt_of_cell? w _ c0)).trans c0
  have d1 : ∀ o, (w.alloc o).cell? ⟨g, 1, none⟩ = some (.iface 9 (.string s)) := fun o => ((B0 o).cell (p := ⟨g, 1, none⟩) (World.block_lt_of_cell? w _ c1)).trans c1
  go_enter Tryd.func29, Tryd.ntmps29
  go_wp2_with (first | (go_at_call 30; refine (oid_any s _ (HG.out.below HG.out.lt (B0 _))).mono ?_; rintro e w2 ⟨b0, b1, b2, b3, b4, b5, b6, b7, b8, b9, b10, b11, ev, rfl, hib, hev, hB2⟩; have HI := Aside0.mk hib; have HE := Aside0.mk hev; have HB := Aside0.mk hB2; have r0 := z12_at w _ hB2; have q0 := (r0 0 (by omega)).1; have z0 := (r0 0 (by omega)).2; have q1 := (r0 1 (by omega)).1; have z1 := (r0 1 (by omega)).2; have q2 := (r0 2 (by omega)).1; have z2 := (r0 2 (by omega)).2; have q3 := (r0 3 (by omega)).1; have z3 := (r0 3 (by omega)).2; have q4 := (r0 4 (by omega)).1; have z4 := (r0 4 (by omega)).2; have q5 := (r0 5 (by omega)).1; have z5 := (r0 5 (by omega)).2; have q6 := (r0 6 (by omega)).1; have z6 := (r0 6 (by omega)).2; have q7 := (r0 7 (by omega)).1; have z7 := (r0 7 (by omega)).2; have q8 := (r0 8 (by omega)).1; have z8 := (r0 8 (by omega)).2; have q9 := (r0 9 (by omega)).1; have z9 := (r0 9 (by omega)).2; have q10 := (r0 10 (by omega)).1; have z10 := (r0 10 (by omega)).2; have q11 := (r0 11 (by omega)).1; have z11 := (r0 11 (by omega)).2; clear hib hev hB2 r0) | (go_at_call 38; fail))
  have HF : Below w.heap.size w w2 := (B0 _).trans (HB.out.mono (by simp))
  have bl := ((((((((((((HF.setCell (p := ⟨w.heap.size, 0, none⟩) (Nat.le_refl _) (.int .u8 b0)).setCell (p := ⟨w.heap.size, 1, none⟩) (Nat.le_refl _) (.int .u8 b1)).setCell (p := ⟨w.heap.size, 2, none⟩) (Nat.le_refl _) (.int .u8 b2)).setCell (p := ⟨w.heap.size, 3, none⟩) (Nat.le_refl _) (.int .u8 b3)).setCell (p := ⟨w.heap.size, 4, none⟩) (Nat.le_refl _) (.int .u8 b4)).setCell (p := ⟨w.heap.size, 5, none⟩) (Nat.le_refl _) (.int .u8 b5)).setCell (p := ⟨w.heap.size, 6, none⟩) (Nat.le_refl _) (.int .u8 b6)).setCell (p := ⟨w.heap.size, 7, none⟩) (Nat.le_refl _) (.int .u8 b7)).setCell (p := ⟨w.heap.size, 8, none⟩) (Nat.le_refl _) (.int .u8 b8)).setCell (p := ⟨w.heap.size, 9, none⟩) (Nat.le_refl _) (.int .u8 b9)).setCell (p := ⟨w.heap.size, 10, none⟩) (Nat.le_refl _) (.int .u8 b10)).setCell (p := ⟨w.heap.size, 11, none⟩) (Nat.le_refl _) (.int .u8 b11))
  refine bodyPost_ret (v := .tuple #[.agg #[.int .u8 b0, .int .u8 b1, .int .u8 b2, .int .u8 b3, .int .u8 b4, .int .u8 b5, .int .u8 b6, .int .u8 b7, .int .u8 b8, .int .u8 b9, .int .u8 b10, .int .u8 b11], ev]) (by simp [results, Tryd.results29, go_sem, q0, q1, q2, q3, q4, q5, q6, q7, q8, q9, q10, q11]) rfl ⟨b0, b1, b2, b3, b4, b5, b6, b7, b8, b9, b10, b11, ev, rfl, HI.out, HE.out, bl⟩
set_option maxHeartbeats 4000000 in
set_option maxRecDepth 100000 in
theorem zzid_calls (s : ByteArray) (w : World) (hg : Laid0 w) : Calls Tryd.prog 16 #[.string s] w (IdOut s.data.toList w) := by
  have HG := Aside0.mk hg
  clear hg
  have B0 : ∀ o o', Below w.heap.size w ((w.alloc o).alloc o') := fun o o' => ((Below.refl _ w).alloc (Nat.le_refl _) o).alloc (by simp) o'
  go_enter Tryd.func16, Tryd.ntmps16
  go_wp2_with (first | (go_at_call 29; refine (parse_calls _ s _ (HG.out.below HG.out.lt (B0 _ _)) (by go_simp) (by go_simp)).mono ?_; rintro e w2 ⟨b0, b1, b2, b3, b4, b5, b6, b7, b8, b9, b10, b11, ev, rfl, hib, hev, hB2⟩; have HI := Aside0.mk hib; have HE := Aside0.mk hev; have HB := Aside0.mk hB2; have r0 := z12_at w _ (((Below.refl _ _).alloc (Nat.le_refl _) _).trans (hB2.mono (by simp))); have q0 := (r0 0 (by omega)).1; have z0 := (r0 0 (by omega)).2; have q1 := (r0 1 (by omega)).1; have z1 := (r0 1 (by omega)).2; have q2 := (r0 2 (by omega)).1; have z2 := (r0 2 (by omega)).2; have q3 := (r0 3 (by omega)).1; have z3 := (r0 3 (by omega)).2; have q4 := (r0 4 (by omega)).1; have z4 := (r0 4 (by omega)).2; have q5 := (r0 5 (by omega)).1; have z5 := (r0 5 (by omega)).2; have q6 := (r0 6 (by omega)).1; have z6 := (r0 6 (by omega)).2; have q7 := (r0 7 (by omega)).1; have z7 := (r0 7 (by omega)).2; have q8 := (r0 8 (by omega)).1; have z8 := (r0 8 (by omega)).2; have q9 := (r0 9 (by omega)).1; have z9 := (r0 9 (by omega)).2; have q10 := (r0 10 (by omega)).1; have z10 := (r0 10 (by omega)).2; have q11 := (r0 11 (by omega)).1; have z11 := (r0 11 (by omega)).2; clear hib hev hB2 r0))
  have HF : Below w.heap.size w w2 := (B0 _ _).trans (HB.out.mono (by simp; omega))
  have bl := ((((((((((((HF.setCell (p := ⟨w.heap.size, 0, none⟩) (Nat.le_refl _) (.int .u8 b0)).setCell (p := ⟨w.heap.size, 1, none⟩) (Nat.le_refl _) (.int .u8 b1)).setCell (p := ⟨w.heap.size, 2, none⟩) (Nat.le_refl _) (.int .u8 b2)).setCell (p := ⟨w.heap.size, 3, none⟩) (Nat.le_refl _) (.int .u8 b3)).setCell (p := ⟨w.heap.size, 4, none⟩) (Nat.le_refl _) (.int .u8 b4)).setCell (p := ⟨w.heap.size, 5, none⟩) (Nat.le_refl _) (.int .u8 b5)).setCell (p := ⟨w.heap.size, 6, none⟩) (Nat.le_refl _) (.int .u8 b6)).setCell (p := ⟨w.heap.size, 7, none⟩) (Nat.le_refl _) (.int .u8 b7)).setCell (p := ⟨w.heap.size, 8, none⟩) (Nat.le_refl _) (.int .u8 b8)).setCell (p := ⟨w.heap.size, 9, none⟩) (Nat.le_refl _) (.int .u8 b9)).setCell (p := ⟨w.heap.size, 10, none⟩) (Nat.le_refl _) (.int .u8 b10)).setCell (p := ⟨w.heap.size, 11, none⟩) (Nat.le_refl _) (.int .u8 b11))
  refine bodyPost_ret (v := .tuple #[.agg #[.int .u8 b0, .int .u8 b1, .int .u8 b2, .int .u8 b3, .int .u8 b4, .int .u8 b5, .int .u8 b6, .int .u8 b7, .int .u8 b8, .int .u8 b9, .int .u8 b10, .int .u8 b11], ev]) (by simp [results, Tryd.results16, go_sem, q0, q1, q2, q3, q4, q5, q6, q7, q8, q9, q10, q11]) rfl ⟨b0, b1, b2, b3, b4, b5, b6, b7, b8, b9, b10, b11, ev, rfl, HI.out, HE.out, bl⟩
theorem row12 (b0 b1 b2 b3 b4 b5 b6 b7 b8 b9 b10 b11 : Int) (w W : World) (hB : Below (w.alloc (.cells #[.int .u8 b0, .int .u8 b1, .int .u8 b2, .int .u8 b3, .int .u8 b4, .int .u8 b5, .int .u8 b6, .int .u8 b7, .int .u8 b8, .int .u8 b9, .int .u8 b10, .int .u8 b11] 44)).heap.size (w.alloc (.cells #[.int .u8 b0, .int .u8 b1, .int .u8 b2, .int .u8 b3, .int .u8 b4, .int .u8 b5, .int .u8 b6, .int .u8 b7, .int .u8 b8, .int .u8 b9, .int .u8 b10, .int .u8 b11] 44)) W) : Kd.C (Kd.int .u8) W (some ⟨w.heap.size, 0, none⟩) [b0, b1, b2, b3, b4, b5, b6, b7, b8, b9, b10, b11].length [b0, b1, b2, b3, b4, b5, b6, b7, b8, b9, b10, b11] := by
  refine Kd.C_of_reads (d := 0) ⟨rfl, (by show (12 : Nat) ≤ 9223372036854775807; omega), fun _ => ⟨_, rfl, fun j hj => ?_⟩⟩
  have hj : j < 12 := hj
  have : j = 0 ∨ j = 1 ∨ j = 2 ∨ j = 3 ∨ j = 4 ∨ j = 5 ∨ j = 6 ∨ j = 7 ∨ j = 8 ∨ j = 9 ∨ j = 10 ∨ j = 11 := by omega
  rcases this with rfl | rfl | rfl | rfl | rfl | rfl | rfl | rfl | rfl | rfl | rfl | rfl <;> refine (hB.cell (p := ⟨w.heap.size, _, none⟩) (by simp)).trans ?_ <;> go_simp
set_option maxHeartbeats 4000000 in
set_option maxRecDepth 100000 in
theorem impl_ExtID.calls (s : ByteArray) (w : World) (hg : Laid0 w) : Calls Tryd.prog 7 #[.string s] w fun e w' => ∃ v, e = .returned (.tuple #[v, .bool (idGood s.data.toList)]) ∧ Kd.R (Kd.int .u8) 5 w' w.heap.size (fun _ => True) v (idBytes s.data.toList) ∧ Below w.heap.size w w' := by
  go_enter Tryd.func7, Tryd.ntmps7
  go_wp2_with (first | (go_at_call 16; refine (zzid_calls s _ hg).mono ?_; rintro e w2 ⟨b0, b1, b2, b3, b4, b5, b6, b7, b8, b9, b10, b11, ev, rfl, hib, hev, hB2⟩; have HI := Aside0.mk hib; have HE := Aside0.mk hev; have HB := Aside0.mk hB2; clear hib hev hB2))
  have hown : ∀ W, Below (w2.alloc (.cells #[.int .u8 b0, .int .u8 b1, .int .u8 b2, .int .u8 b3, .int .u8 b4, .int .u8 b5, .int .u8 b6, .int .u8 b7, .int .u8 b8, .int .u8 b9, .int .u8 b10, .int .u8 b11] 44)).heap.size (w2.alloc (.cells #[.int .u8 b0, .int .u8 b1, .int .u8 b2, .int .u8 b3, .int .u8 b4, .int .u8 b5, .int .u8 b6, .int .u8 b7, .int .u8 b8, .int .u8 b9, .int .u8 b10, .int .u8 b11] 44)) W → Calls Tryd.prog 17 #[.slice (some ⟨w2.heap.size, 0, none⟩) 12 12] W fun e w' => ∃ v0_ : Value, e = .returned v0_ ∧ Kd.R (Kd.int .u8) 5 w' W.heap.size (fun _ => True) v0_ [b0, b1, b2, b3, b4, b5, b6, b7, b8, b9, b10, b11] ∧ Below W.heap.size W w' := fun W hW => impl_own.calls _ 12 [b0, b1, b2, b3, b4, b5, b6, b7, b8, b9, b10, b11] [b0, b1, b2, b3, b4, b5, b6, b7, b8, b9, b10, b11] W (row12 b0 b1 b2 b3 b4 b5 b6 b7 b8 b9 b10 b11 w2 W hW) (Nat.le_refl 12) rfl
  rcases HE.out with ⟨rfl, hgood⟩ | ⟨⟨T, p, rfl⟩, hgood⟩
  · go_region_with (go_at_call 17; refine (hown _ ?_).mono ?_; (first | exact Below.refl _ _ | exact below_drew (Below.refl _ _)); rintro e w3 ⟨v, rfl, hR, hB3⟩; have HR := Aside0.mk hR; have HB3 := Aside0.mk hB3; clear hR hB3)
    all_goals (go_wp2; go_ret2; exact ⟨v, by rw [hgood]; rfl, by rw [HI.out]; exact Kd.R_lower HR.out (by have := HB.out.size; simp; omega), HB.out.trans ((below_drew ((Below.refl _ w2).alloc (Nat.le_refl _) _)).trans (HB3.out.mono (by simp)) |>.mono HB.out.size)⟩)
  · go_region_with (go_at_call 17; refine (hown _ ?_).mono ?_; (first | exact Below.refl _ _ | exact below_drew (Below.refl _ _)); rintro e w3 ⟨v, rfl, hR, hB3⟩; have HR := Aside0.mk hR; have HB3 := Aside0.mk hB3; clear hR hB3)
    all_goals (go_wp2; go_ret2; exact ⟨v, by rw [hgood]; rfl, by rw [HI.out]; exact Kd.R_lower HR.out (by have := HB.out.size; simp; omega), HB.out.trans ((below_drew ((Below.refl _ w2).alloc (Nat.le_refl _) _)).trans (HB3.out.mono (by simp)) |>.mono HB.out.size)⟩)

end Go.Proofs.YthlpmeiihchdjaaDoor.Ext
