/- Walks by hand of functions of this seat. Conditions: as each theorem states them. -/
import Derived.Test.YthlpmeiihchdjaaDoorProg
import Derived.Test.YthlpmeiihchdjaaDoorHW
import Derived.Below
import Derived.Deep.Draws
import Derived.OwnWalk
import Derived.Tactics
import Derived.WalkKit
import Derived.KernelRfl
import Derived.RowKit3
import Derived.Deep.LoopGhost
import Derived.Deep.QuietTactic
import Derived.BigQuiet
import Derived.WideLaws
import Derived.Deep.DeepCutAuto
import Derived.Deep.CutBlock
import Derived.Laws.Rows
import Derived.Outline
import Derived.StillTailTactics
import Derived.Deep.RegionHeld3
import Derived.Test.YthlpmeiihchdjaaDoorOid
import Derived.Test.YthlpmeiihchdjaaDoorExt
import Derived.Laws.CopyRow
import Derived.Laws.IdiomCopy
import Derived.Deep.WholeRow
import Derived.Test.YthlpmeiihchdjaaDoorPZx
import Derived.Deep.RegionWith
namespace Go.Proofs.YthlpmeiihchdjaaDoor.Bid
open Go.RowKit Go.Proofs.YthlpmeiihchdjaaDoorW.PrintWords Go.Proofs.YthlpmeiihchdjaaDoorW.PrintLast Go.Proofs.YthlpmeiihchdjaaDoorW.PrintMore
set_option linter.unusedVariables false
set_option linter.unusedSimpArgs false
open Go.Lib Go.Proofs.YthlpmeiihchdjaaDoor.Oid Go.Proofs.YthlpmeiihchdjaaDoor.PZ Go.Proofs.YthlpmeiihchdjaaDoor.Ext
set_option maxHeartbeats 4000000 in
set_option maxRecDepth 100000 in
theorem id_calls (ad : Addr) (c : Nat) (b0 b1 b2 b3 b4 b5 b6 b7 b8 b9 b10 b11 : Int) (w : World) (hc : ∀ j v, ([.int .u8 b0, .int .u8 b1, .int .u8 b2, .int .u8 b3, .int .u8 b4, .int .u8 b5, .int .u8 b6, .int .u8 b7, .int .u8 b8, .int .u8 b9, .int .u8 b10, .int .u8 b11] : List Value)[j]? = some v → w.cell? (ad.add j) = some v) :
    Calls Tryd.prog 18 #[.slice (some ad) 12 c] w fun e w' => e = .returned (.agg #[.int .u8 b0, .int .u8 b1, .int .u8 b2, .int .u8 b3, .int .u8 b4, .int .u8 b5, .int .u8 b6, .int .u8 b7, .int .u8 b8, .int .u8 b9, .int .u8 b10, .int .u8 b11]) ∧ Below w.heap.size w w' := by
  have hB : ∀ o, Below w.heap.size w (w.alloc o) := fun o => (Below.refl _ w).alloc (Nat.le_refl _) o
  have hcp : (Builtin.copy_ #[22, 22] 3 #[.slice (some ⟨w.heap.size, 0, none⟩) 12 12, .slice (some ad) 12 c]).run Tryd.prog (w.alloc (.cells #[.int .u8 0, .int .u8 0, .int .u8 0, .int .u8 0, .int .u8 0, .int .u8 0, .int .u8 0, .int .u8 0, .int .u8 0, .int .u8 0, .int .u8 0, .int .u8 0] 43)) = .ok (.int .i64 12) (w.alloc (.cells #[.int .u8 b0, .int .u8 b1, .int .u8 b2, .int .u8 b3, .int .u8 b4, .int .u8 b5, .int .u8 b6, .int .u8 b7, .int .u8 b8, .int .u8 b9, .int .u8 b10, .int .u8 b11] 43)) :=
    (run_copy_row (P := Tryd.prog) (w.alloc (.cells #[.int .u8 0, .int .u8 0, .int .u8 0, .int .u8 0, .int .u8 0, .int .u8 0, .int .u8 0, .int .u8 0, .int .u8 0, .int .u8 0, .int .u8 0, .int .u8 0] 43)) 22 22 3 5 w.heap.size 0 12 12 ad 12 c #[.int .u8 0, .int .u8 0, .int .u8 0, .int .u8 0, .int .u8 0, .int .u8 0, .int .u8 0, .int .u8 0, .int .u8 0, .int .u8 0, .int .u8 0, .int .u8 0] 43 [.int .u8 b0, .int .u8 b1, .int .u8 b2, .int .u8 b3, .int .u8 b4, .int .u8 b5, .int .u8 b6, .int .u8 b7, .int .u8 b8, .int .u8 b9, .int .u8 b10, .int .u8 b11] Tryd.underlying22 (by kernel_rfl) (by show (w.heap.push _)[w.heap.size]? = _; exact Array.getElem?_push_size ..) rfl
    (fun j v hv => ((hB _).cell (World.block_lt_of_cell? w _ (hc j v hv))).trans (hc j v hv)) (Nat.le_refl 12) (fun v hv => by rcases (List.mem_map.1 (show v ∈ [b0, b1, b2, b3, b4, b5, b6, b7, b8, b9, b10, b11].map (Value.int .u8) from hv)) with ⟨x, _, rfl⟩; rfl)).trans (by rw [World.setRow_alloc_new]; rfl)
  clear hc
  go_enter Tryd.func18, Tryd.ntmps18
  go_wp2
  refine bodyPost_ret (v := .agg #[.int .u8 b0, .int .u8 b1, .int .u8 b2, .int .u8 b3, .int .u8 b4, .int .u8 b5, .int .u8 b6, .int .u8 b7, .int .u8 b8, .int .u8 b9, .int .u8 b10, .int .u8 b11]) (by simp [results, Tryd.results18, go_sem]) rfl ⟨rfl, hB _⟩

set_option maxRecDepth 100000 in
theorem unm_nil (g : Nat) (A : Option Addr) (c : Nat) (w : World) : Calls Tryd.prog 19 #[.pointer (some ⟨g, 0, none⟩), .slice A 0 c] w fun e w' => e = .returned .nilIface ∧ w' = w := by
  go_enter Tryd.func19, Tryd.ntmps19
  go_wp2
  go_ret
  exact ⟨rfl, rfl⟩
set_option maxHeartbeats 4000000 in
set_option maxRecDepth 100000 in
theorem unm_bad (g : Nat) (A : Option Addr) (c : Nat) (l : List Int) (w : World) (hl : Kd.C (Kd.int .u8) w A l.length l) (h0 : 0 < l.length) (hg : Laid0 w) (hbad : idGood (strOfNums l).data.toList = false) :
    Calls Tryd.prog 19 #[.pointer (some ⟨g, 0, none⟩), .slice A l.length c] w fun e w' => (∃ T p, e = .returned (.iface T p)) ∧ Below w.heap.size w w' := by
  have hcv := Kd.C_string (P := Tryd.prog) (src := 22) (dst := 9) (c := c) Tryd.underlying22 Tryd.underlying5 Tryd.underlying9 hl
  have hne : ((l.length : Int) = 0) = False := eq_false (by omega)
  clear hl
  go_enter Tryd.func19, Tryd.ntmps19
  go_wp2_with (first | (go_at_call 30; refine (oid_any _ _ hg).mono ?_; rintro e w2 ⟨b0, b1, b2, b3, b4, b5, b6, b7, b8, b9, b10, b11, ev, rfl, _, hev, hB2⟩; obtain ⟨T, p, rfl⟩ : ∃ T p, ev = .iface T p := hev.elim (fun h => absurd (hbad.symm.trans h.2) (by decide)) (fun h => h.1); have HB := Aside0.mk hB2; clear hev hB2))
  go_ret
  exact ⟨⟨T, p, rfl⟩, HB.out.trans ((Below.refl _ w2).alloc (Nat.le_refl _) _ |>.mono HB.out.size)⟩
set_option maxHeartbeats 4000000 in
set_option maxRecDepth 100000 in
theorem unm_good (g : Nat) (A : Option Addr) (c : Nat) (l : List Int) (w : World) (a0 a1 a2 a3 a4 a5 a6 a7 a8 a9 a10 a11 : Int) (hl : Kd.C (Kd.int .u8) w A l.length l) (h0 : 0 < l.length) (hg : Laid0 w) (hgood : idGood (strOfNums l).data.toList = true)
    (hG0 : ∀ i v, ([.int .u8 a0, .int .u8 a1, .int .u8 a2, .int .u8 a3, .int .u8 a4, .int .u8 a5, .int .u8 a6, .int .u8 a7, .int .u8 a8, .int .u8 a9, .int .u8 a10, .int .u8 a11] : List Value)[i]? = some v → w.cell? ⟨g, i, none⟩ = some v ∧ w.frozen? ⟨g, i, none⟩ = false) :
    Calls Tryd.prog 19 #[.pointer (some ⟨g, 0, none⟩), .slice A l.length c] w fun e w' => e = .returned .nilIface ∧ ∃ w2 b0 b1 b2 b3 b4 b5 b6 b7 b8 b9 b10 b11, Below w.heap.size w w2 ∧ idBytes (strOfNums l).data.toList = [b0, b1, b2, b3, b4, b5, b6, b7, b8, b9, b10, b11] ∧ w' = (w2.alloc (.cells #[.int .u8 b0, .int .u8 b1, .int .u8 b2, .int .u8 b3, .int .u8 b4, .int .u8 b5, .int .u8 b6, .int .u8 b7, .int .u8 b8, .int .u8 b9, .int .u8 b10, .int .u8 b11] 44)).setCells g 0 [.int .u8 b0, .int .u8 b1, .int .u8 b2, .int .u8 b3, .int .u8 b4, .int .u8 b5, .int .u8 b6, .int .u8 b7, .int .u8 b8, .int .u8 b9, .int .u8 b10, .int .u8 b11] := by
  have hcv := Kd.C_string (P := Tryd.prog) (src := 22) (dst := 9) (c := c) Tryd.underlying22 Tryd.underlying5 Tryd.underlying9 hl
  have hne : ((l.length : Int) = 0) = False := eq_false (by omega)
  clear hl
  have HG0 := Aside0.mk hG0
  clear hG0
  go_enter Tryd.func19, Tryd.ntmps19
  go_wp2_with (first | (go_at_call 30; refine (oid_any _ _ hg).mono ?_; rintro e w2 ⟨b0, b1, b2, b3, b4, b5, b6, b7, b8, b9, b10, b11, ev, rfl, hib, hev, hB2⟩; obtain rfl : ev = .nilIface := hev.elim (fun h => h.1) (fun h => absurd (hgood.symm.trans h.2) (by decide)); have HI := Aside0.mk hib; have HB := Aside0.mk hB2; have hG : ∀ (o : Obj) (i : Nat) (v : Value), ([.int .u8 a0, .int .u8 a1, .int .u8 a2, .int .u8 a3, .int .u8 a4, .int .u8 a5, .int .u8 a6, .int .u8 a7, .int .u8 a8, .int .u8 a9, .int .u8 a10, .int .u8 a11] : List Value)[i]? = some v → (w2.alloc o).cell? ⟨g, i, none⟩ = some v ∧ (w2.alloc o).frozen? ⟨g, i, none⟩ = false := fun o i v hi => ⟨((hB2.trans ((Below.refl _ w2).alloc (Nat.le_refl _) o |>.mono hB2.size)).cell (p := ⟨g, i, none⟩) (World.block_lt_of_cell? w _ (HG0.out i v hi).1)).trans (HG0.out i v hi).1, ((hB2.trans ((Below.refl _ w2).alloc (Nat.le_refl _) o |>.mono hB2.size)).frozen (p := ⟨g, i, none⟩) (World.block_lt_of_cell? w _ (HG0.out i v hi).1)).trans (HG0.out i v hi).2⟩; have q0 := fun o => (hG o 0 (.int .u8 a0) rfl).1; have z0 := fun o => (hG o 0 (.int .u8 a0) rfl).2; have q1 := fun o => (hG o 1 (.int .u8 a1) rfl).1; have z1 := fun o => (hG o 1 (.int .u8 a1) rfl).2; have q2 := fun o => (hG o 2 (.int .u8 a2) rfl).1; have z2 := fun o => (hG o 2 (.int .u8 a2) rfl).2; have q3 := fun o => (hG o 3 (.int .u8 a3) rfl).1; have z3 := fun o => (hG o 3 (.int .u8 a3) rfl).2; have q4 := fun o => (hG o 4 (.int .u8 a4) rfl).1; have z4 := fun o => (hG o 4 (.int .u8 a4) rfl).2; have q5 := fun o => (hG o 5 (.int .u8 a5) rfl).1; have z5 := fun o => (hG o 5 (.int .u8 a5) rfl).2; have q6 := fun o => (hG o 6 (.int .u8 a6) rfl).1; have z6 := fun o => (hG o 6 (.int .u8 a6) rfl).2; have q7 := fun o => (hG o 7 (.int .u8 a7) rfl).1; have z7 := fun o => (hG o 7 (.int .u8 a7) rfl).2; have q8 := fun o => (hG o 8 (.int .u8 a8) rfl).1; have z8 := fun o => (hG o 8 (.int .u8 a8) rfl).2; have q9 := fun o => (hG o 9 (.int .u8 a9) rfl).1; have z9 := fun o => (hG o 9 (.int .u8 a9) rfl).2; have q10 := fun o => (hG o 10 (.int .u8 a10) rfl).1; have z10 := fun o => (hG o 10 (.int .u8 a10) rfl).2; have q11 := fun o => (hG o 11 (.int .u8 a11) rfl).1; have z11 := fun o => (hG o 11 (.int .u8 a11) rfl).2; clear hev hB2 hib hG))
  go_ret
  exact ⟨rfl, w2, b0, b1, b2, b3, b4, b5, b6, b7, b8, b9, b10, b11, HB.out, HI.out, rfl⟩

theorem below_setCells {N g : Nat} {w0 : World} (hg : N ≤ g) : ∀ (vs : List Value) (o : Nat) {w : World}, Below N w0 w → Below N w0 (w.setCells g o vs)
  | [], _, _, h => h
  | v :: r, o, _, h => below_setCells hg r (o + 1) (h.setCell (p := ⟨g, o, none⟩) hg v)
theorem rowset (xs : List Int) (g : Nat) (w2 W : World) (hq : ∀ j, j < xs.length → (w2.cell? ⟨g, j, none⟩).isSome = true) (hmax : xs.length ≤ 9223372036854775807) (hB : Below (w2.setCells g 0 (xs.map (Value.int .u8))).heap.size (w2.setCells g 0 (xs.map (Value.int .u8))) W) : Kd.C (Kd.int .u8) W (some ⟨g, 0, none⟩) xs.length xs := by
  have hin := World.cell?_setCells_in g (xs.map (Value.int .u8)) 0 w2 (fun j hj => by rw [Nat.zero_add]; exact hq j (by simpa using hj))
  refine Kd.C_of_reads (d := 0) ⟨rfl, hmax, fun _ => ⟨_, rfl, fun j hj => ?_⟩⟩
  have h1 := hin j (by simpa using hj)
  rw [Nat.zero_add] at h1
  rw [Lib.add_plain, Nat.zero_add]
  refine ((hB.cell (p := ⟨g, j, none⟩) (World.block_lt_of_cell? _ _ h1)).trans h1).trans ?_
  congr 1
  rw [List.getElem_map, List.getD_eq_getElem?_getD, List.getElem?_eq_getElem hj]
  rfl
theorem list12 : ∀ l : List Int, l.length = 12 → ∃ a0 a1 a2 a3 a4 a5 a6 a7 a8 a9 a10 a11, l = [a0, a1, a2, a3, a4, a5, a6, a7, a8, a9, a10, a11] := by
  intro l h
  match l, h with
  | [a0, a1, a2, a3, a4, a5, a6, a7, a8, a9, a10, a11], _ => exact ⟨a0, a1, a2, a3, a4, a5, a6, a7, a8, a9, a10, a11, rfl⟩
set_option maxHeartbeats 4000000 in
set_option maxRecDepth 100000 in
theorem idft_nil (ad : Addr) (c0 : Nat) (A1 : Option Addr) (c1 : Nat) (l1 : List Int) (a0 a1 a2 a3 a4 a5 a6 a7 a8 a9 a10 a11 : Int) (w : World) (hc : ∀ j v, ([.int .u8 a0, .int .u8 a1, .int .u8 a2, .int .u8 a3, .int .u8 a4, .int .u8 a5, .int .u8 a6, .int .u8 a7, .int .u8 a8, .int .u8 a9, .int .u8 a10, .int .u8 a11] : List Value)[j]? = some v → w.cell? (ad.add j) = some v) (hr1 : Kd.C (Kd.int .u8) w A1 l1.length l1) (hlaid : Laid0 w) :
    Calls Tryd.prog 8 #[.slice (some ad) 12 c0, .slice A1 0 c1] w fun e w' => ∃ v, e = .returned (.tuple #[v, .bool true]) ∧ Kd.R (Kd.int .u8) 5 w' w.heap.size (fun _ => True) v [a0, a1, a2, a3, a4, a5, a6, a7, a8, a9, a10, a11] ∧ Below w.heap.size w w' := by
  have HC := Aside0.mk hc
  have HR1 := Aside0.mk hr1
  have HL := Aside0.mk hlaid
  clear hc hr1 hlaid
  go_enter Tryd.func8, Tryd.ntmps8
  go_wp2_with (first | (go_at_call 18; refine (id_calls ad c0 a0 a1 a2 a3 a4 a5 a6 a7 a8 a9 a10 a11 w HC.out).mono ?_; rintro e w1 ⟨rfl, hB1⟩; have HB1 := Aside0.mk hB1; clear hB1) | (go_at_call 19; refine (unm_nil _ A1 c1 _).mono ?_; rintro e w2 ⟨rfl, rfl⟩))
  have HF := Aside0.mk (HB1.out.trans ((Below.refl _ w1).alloc (Nat.le_refl _) (.cells #[.int .u8 a0, .int .u8 a1, .int .u8 a2, .int .u8 a3, .int .u8 a4, .int .u8 a5, .int .u8 a6, .int .u8 a7, .int .u8 a8, .int .u8 a9, .int .u8 a10, .int .u8 a11] 44) |>.mono HB1.out.size))
  have hown : ∀ W, Below (w1.alloc (.cells #[.int .u8 a0, .int .u8 a1, .int .u8 a2, .int .u8 a3, .int .u8 a4, .int .u8 a5, .int .u8 a6, .int .u8 a7, .int .u8 a8, .int .u8 a9, .int .u8 a10, .int .u8 a11] 44)).heap.size (w1.alloc (.cells #[.int .u8 a0, .int .u8 a1, .int .u8 a2, .int .u8 a3, .int .u8 a4, .int .u8 a5, .int .u8 a6, .int .u8 a7, .int .u8 a8, .int .u8 a9, .int .u8 a10, .int .u8 a11] 44)) W → Calls Tryd.prog 17 #[.slice (some ⟨w1.heap.size, 0, none⟩) 12 12] W fun e w' => ∃ v0_ : Value, e = .returned v0_ ∧ Kd.R (Kd.int .u8) 5 w' W.heap.size (fun _ => True) v0_ [a0, a1, a2, a3, a4, a5, a6, a7, a8, a9, a10, a11] ∧ Below W.heap.size W w' := fun W hW => impl_own.calls _ 12 [a0, a1, a2, a3, a4, a5, a6, a7, a8, a9, a10, a11] [a0, a1, a2, a3, a4, a5, a6, a7, a8, a9, a10, a11] W (row12 a0 a1 a2 a3 a4 a5 a6 a7 a8 a9 a10 a11 w1 W hW) (Nat.le_refl 12) rfl
  go_region_with (go_at_call 17; refine (hown _ ?_).mono ?_; (first | exact Below.refl _ _ | exact below_drew (Below.refl _ _)); rintro e w3 ⟨v, rfl, hR, hB3⟩; have HR := Aside0.mk hR; have HB3 := Aside0.mk hB3; clear hR hB3)
  all_goals (go_wp2; go_ret2; exact ⟨v, by first | rfl | (rw [rfl]; rfl), by first | exact Kd.R_lower HR.out HF.out.size | (rw [HI.out]; exact Kd.R_lower HR.out HF.out.size), HF.out.trans ((below_drew (Below.refl _ _)).trans HB3.out |>.mono HF.out.size)⟩)
set_option maxHeartbeats 4000000 in
set_option maxRecDepth 100000 in
theorem idft_bad (ad : Addr) (c0 : Nat) (A1 : Option Addr) (c1 : Nat) (l1 : List Int) (a0 a1 a2 a3 a4 a5 a6 a7 a8 a9 a10 a11 : Int) (w : World) (hc : ∀ j v, ([.int .u8 a0, .int .u8 a1, .int .u8 a2, .int .u8 a3, .int .u8 a4, .int .u8 a5, .int .u8 a6, .int .u8 a7, .int .u8 a8, .int .u8 a9, .int .u8 a10, .int .u8 a11] : List Value)[j]? = some v → w.cell? (ad.add j) = some v) (hr1 : Kd.C (Kd.int .u8) w A1 l1.length l1) (hlaid : Laid0 w) (h0 : 0 < l1.length) (hbad : idGood (strOfNums l1).data.toList = false) :
    Calls Tryd.prog 8 #[.slice (some ad) 12 c0, .slice A1 l1.length c1] w fun e w' => ∃ v, e = .returned (.tuple #[v, .bool false]) ∧ Kd.R (Kd.int .u8) 5 w' w.heap.size (fun _ => True) v [a0, a1, a2, a3, a4, a5, a6, a7, a8, a9, a10, a11] ∧ Below w.heap.size w w' := by
  have HC := Aside0.mk hc
  have HR1 := Aside0.mk hr1
  have HL := Aside0.mk hlaid
  clear hc hr1 hlaid
  go_enter Tryd.func8, Tryd.ntmps8
  go_wp2_with (first | (go_at_call 18; refine (id_calls ad c0 a0 a1 a2 a3 a4 a5 a6 a7 a8 a9 a10 a11 w HC.out).mono ?_; rintro e w1 ⟨rfl, hB1⟩; have HB1 := Aside0.mk hB1; clear hB1) | (go_at_call 19; refine (unm_bad _ A1 c1 _ _ (Kd.C_below HR1.out (HB1.out.trans ((Below.refl _ w1).alloc (Nat.le_refl _) (.cells #[.int .u8 a0, .int .u8 a1, .int .u8 a2, .int .u8 a3, .int .u8 a4, .int .u8 a5, .int .u8 a6, .int .u8 a7, .int .u8 a8, .int .u8 a9, .int .u8 a10, .int .u8 a11] 44) |>.mono HB1.out.size))) h0 (HL.out.below HL.out.lt (HB1.out.trans ((Below.refl _ w1).alloc (Nat.le_refl _) (.cells #[.int .u8 a0, .int .u8 a1, .int .u8 a2, .int .u8 a3, .int .u8 a4, .int .u8 a5, .int .u8 a6, .int .u8 a7, .int .u8 a8, .int .u8 a9, .int .u8 a10, .int .u8 a11] 44) |>.mono HB1.out.size))) hbad).mono ?_; rintro e w2 ⟨⟨T, p, rfl⟩, hB2⟩; have HB2 := Aside0.mk hB2; clear hB2))
  have HF := Aside0.mk ((HB1.out.trans ((Below.refl _ w1).alloc (Nat.le_refl _) (.cells #[.int .u8 a0, .int .u8 a1, .int .u8 a2, .int .u8 a3, .int .u8 a4, .int .u8 a5, .int .u8 a6, .int .u8 a7, .int .u8 a8, .int .u8 a9, .int .u8 a10, .int .u8 a11] 44) |>.mono HB1.out.size)).trans (HB2.out.mono ((HB1.out.trans ((Below.refl _ w1).alloc (Nat.le_refl _) (.cells #[.int .u8 a0, .int .u8 a1, .int .u8 a2, .int .u8 a3, .int .u8 a4, .int .u8 a5, .int .u8 a6, .int .u8 a7, .int .u8 a8, .int .u8 a9, .int .u8 a10, .int .u8 a11] 44) |>.mono HB1.out.size)).size)))
  have hown : ∀ W, Below w2.heap.size w2 W → Calls Tryd.prog 17 #[.slice (some ⟨w1.heap.size, 0, none⟩) 12 12] W fun e w' => ∃ v0_ : Value, e = .returned v0_ ∧ Kd.R (Kd.int .u8) 5 w' W.heap.size (fun _ => True) v0_ [a0, a1, a2, a3, a4, a5, a6, a7, a8, a9, a10, a11] ∧ Below W.heap.size W w' := fun W hW => impl_own.calls _ 12 [a0, a1, a2, a3, a4, a5, a6, a7, a8, a9, a10, a11] [a0, a1, a2, a3, a4, a5, a6, a7, a8, a9, a10, a11] W (row12 a0 a1 a2 a3 a4 a5 a6 a7 a8 a9 a10 a11 w1 W (HB2.out.trans (hW.mono HB2.out.size))) (Nat.le_refl 12) rfl
  go_region_with (go_at_call 17; refine (hown _ ?_).mono ?_; (first | exact Below.refl _ _ | exact below_drew (Below.refl _ _)); rintro e w3 ⟨v, rfl, hR, hB3⟩; have HR := Aside0.mk hR; have HB3 := Aside0.mk hB3; clear hR hB3)
  all_goals (go_wp2; go_ret2; exact ⟨v, by first | rfl | (rw [rfl]; rfl), by first | exact Kd.R_lower HR.out HF.out.size | (rw [HI.out]; exact Kd.R_lower HR.out HF.out.size), HF.out.trans ((below_drew (Below.refl _ _)).trans HB3.out |>.mono HF.out.size)⟩)
theorem cell_new (w : World) (cs : Array Value) (t : TypeId) (i : Nat) : (w.alloc (.cells cs t)).cell? ⟨w.heap.size, i, none⟩ = cs.toList[i]? := by
  have h : (w.alloc (.cells cs t)).heap[w.heap.size]? = some (.cells cs t (0, 0)) := by show (w.heap.push _)[w.heap.size]? = _; exact Array.getElem?_push_size ..
  unfold World.cell?
  rw [h]
  exact (Array.getElem?_toList ..).symm
theorem frozen_new (w : World) (cs : Array Value) (t : TypeId) (i : Nat) : (w.alloc (.cells cs t)).frozen? ⟨w.heap.size, i, none⟩ = false := by
  have h : (w.alloc (.cells cs t)).heap[w.heap.size]? = some (.cells cs t (0, 0)) := by show (w.heap.push _)[w.heap.size]? = _; exact Array.getElem?_push_size ..
  unfold World.frozen?
  rw [h]
  simp
set_option maxHeartbeats 4000000 in
set_option maxRecDepth 100000 in
theorem idft_good (ad : Addr) (c0 : Nat) (A1 : Option Addr) (c1 : Nat) (l1 : List Int) (a0 a1 a2 a3 a4 a5 a6 a7 a8 a9 a10 a11 : Int) (w : World) (hc : ∀ j v, ([.int .u8 a0, .int .u8 a1, .int .u8 a2, .int .u8 a3, .int .u8 a4, .int .u8 a5, .int .u8 a6, .int .u8 a7, .int .u8 a8, .int .u8 a9, .int .u8 a10, .int .u8 a11] : List Value)[j]? = some v → w.cell? (ad.add j) = some v) (hr1 : Kd.C (Kd.int .u8) w A1 l1.length l1) (hlaid : Laid0 w) (h0 : 0 < l1.length) (hgood : idGood (strOfNums l1).data.toList = true) :
    Calls Tryd.prog 8 #[.slice (some ad) 12 c0, .slice A1 l1.length c1] w fun e w' => ∃ v, e = .returned (.tuple #[v, .bool true]) ∧ Kd.R (Kd.int .u8) 5 w' w.heap.size (fun _ => True) v (idBytes (strOfNums l1).data.toList) ∧ Below w.heap.size w w' := by
  have HC := Aside0.mk hc
  have HR1 := Aside0.mk hr1
  have HL := Aside0.mk hlaid
  clear hc hr1 hlaid
  go_enter Tryd.func8, Tryd.ntmps8
  go_wp2_with (first | (go_at_call 18; refine (id_calls ad c0 a0 a1 a2 a3 a4 a5 a6 a7 a8 a9 a10 a11 w HC.out).mono ?_; rintro e w1 ⟨rfl, hB1⟩; have HB1 := Aside0.mk hB1; clear hB1) | (go_at_call 19; refine (unm_good _ A1 c1 _ _ a0 a1 a2 a3 a4 a5 a6 a7 a8 a9 a10 a11 (Kd.C_below HR1.out (HB1.out.trans ((Below.refl _ w1).alloc (Nat.le_refl _) (.cells #[.int .u8 a0, .int .u8 a1, .int .u8 a2, .int .u8 a3, .int .u8 a4, .int .u8 a5, .int .u8 a6, .int .u8 a7, .int .u8 a8, .int .u8 a9, .int .u8 a10, .int .u8 a11] 44) |>.mono HB1.out.size))) h0 (HL.out.below HL.out.lt (HB1.out.trans ((Below.refl _ w1).alloc (Nat.le_refl _) (.cells #[.int .u8 a0, .int .u8 a1, .int .u8 a2, .int .u8 a3, .int .u8 a4, .int .u8 a5, .int .u8 a6, .int .u8 a7, .int .u8 a8, .int .u8 a9, .int .u8 a10, .int .u8 a11] 44) |>.mono HB1.out.size))) hgood (fun i v hv => ⟨(cell_new w1 #[.int .u8 a0, .int .u8 a1, .int .u8 a2, .int .u8 a3, .int .u8 a4, .int .u8 a5, .int .u8 a6, .int .u8 a7, .int .u8 a8, .int .u8 a9, .int .u8 a10, .int .u8 a11] 44 i).trans hv, frozen_new w1 #[.int .u8 a0, .int .u8 a1, .int .u8 a2, .int .u8 a3, .int .u8 a4, .int .u8 a5, .int .u8 a6, .int .u8 a7, .int .u8 a8, .int .u8 a9, .int .u8 a10, .int .u8 a11] 44 i⟩)).mono ?_; rintro e w4 ⟨rfl, w2, b0, b1, b2, b3, b4, b5, b6, b7, b8, b9, b10, b11, hB2, hib, hw4⟩; have HB2 := Aside0.mk hB2; have HI := Aside0.mk hib; have HW := Aside0.mk hw4; clear hB2 hib hw4))
  have HF2 := Aside0.mk ((HB1.out.trans ((Below.refl _ w1).alloc (Nat.le_refl _) (.cells #[.int .u8 a0, .int .u8 a1, .int .u8 a2, .int .u8 a3, .int .u8 a4, .int .u8 a5, .int .u8 a6, .int .u8 a7, .int .u8 a8, .int .u8 a9, .int .u8 a10, .int .u8 a11] 44) |>.mono HB1.out.size)).trans (HB2.out.mono ((HB1.out.trans ((Below.refl _ w1).alloc (Nat.le_refl _) (.cells #[.int .u8 a0, .int .u8 a1, .int .u8 a2, .int .u8 a3, .int .u8 a4, .int .u8 a5, .int .u8 a6, .int .u8 a7, .int .u8 a8, .int .u8 a9, .int .u8 a10, .int .u8 a11] 44) |>.mono HB1.out.size)).size)))
  have HF0 := Aside0.mk (below_setCells HB1.out.size [.int .u8 b0, .int .u8 b1, .int .u8 b2, .int .u8 b3, .int .u8 b4, .int .u8 b5, .int .u8 b6, .int .u8 b7, .int .u8 b8, .int .u8 b9, .int .u8 b10, .int .u8 b11] 0 (HF2.out.trans ((Below.refl _ w2).alloc (Nat.le_refl _) (.cells #[.int .u8 b0, .int .u8 b1, .int .u8 b2, .int .u8 b3, .int .u8 b4, .int .u8 b5, .int .u8 b6, .int .u8 b7, .int .u8 b8, .int .u8 b9, .int .u8 b10, .int .u8 b11] 44) |>.mono HF2.out.size)))
  have HQ : ∀ j, j < 12 → ((w2.alloc (.cells #[.int .u8 b0, .int .u8 b1, .int .u8 b2, .int .u8 b3, .int .u8 b4, .int .u8 b5, .int .u8 b6, .int .u8 b7, .int .u8 b8, .int .u8 b9, .int .u8 b10, .int .u8 b11] 44)).cell? ⟨w1.heap.size, j, none⟩).isSome = true := fun j hj => by
    obtain ⟨u, hu⟩ : ∃ u, (w1.alloc (.cells #[.int .u8 a0, .int .u8 a1, .int .u8 a2, .int .u8 a3, .int .u8 a4, .int .u8 a5, .int .u8 a6, .int .u8 a7, .int .u8 a8, .int .u8 a9, .int .u8 a10, .int .u8 a11] 44)).cell? ⟨w1.heap.size, j, none⟩ = some u := ⟨_, (cell_new w1 _ 44 j).trans (List.getElem?_eq_getElem hj)⟩
    rw [((HB2.out.trans ((Below.refl _ w2).alloc (Nat.le_refl _) (.cells #[.int .u8 b0, .int .u8 b1, .int .u8 b2, .int .u8 b3, .int .u8 b4, .int .u8 b5, .int .u8 b6, .int .u8 b7, .int .u8 b8, .int .u8 b9, .int .u8 b10, .int .u8 b11] 44) |>.mono HB2.out.size)).cell (World.block_lt_of_cell? _ _ hu)).trans hu]
    rfl
  have HF : Aside0 (Below w.heap.size w w4) := Aside0.mk (by rw [HW.out]; exact HF0.out)
  have hown : ∀ W, Below w4.heap.size w4 W → Calls Tryd.prog 17 #[.slice (some ⟨w1.heap.size, 0, none⟩) 12 12] W fun e w' => ∃ v0_ : Value, e = .returned v0_ ∧ Kd.R (Kd.int .u8) 5 w' W.heap.size (fun _ => True) v0_ [b0, b1, b2, b3, b4, b5, b6, b7, b8, b9, b10, b11] ∧ Below W.heap.size W w' := fun W hW => impl_own.calls _ 12 [b0, b1, b2, b3, b4, b5, b6, b7, b8, b9, b10, b11] [b0, b1, b2, b3, b4, b5, b6, b7, b8, b9, b10, b11] W (rowset [b0, b1, b2, b3, b4, b5, b6, b7, b8, b9, b10, b11] w1.heap.size (w2.alloc (.cells #[.int .u8 b0, .int .u8 b1, .int .u8 b2, .int .u8 b3, .int .u8 b4, .int .u8 b5, .int .u8 b6, .int .u8 b7, .int .u8 b8, .int .u8 b9, .int .u8 b10, .int .u8 b11] 44)) W HQ (by show (12 : Nat) ≤ 9223372036854775807; omega) (by rw [HW.out] at hW; exact hW)) (Nat.le_refl 12) rfl
  go_region_with (go_at_call 17; refine (hown _ ?_).mono ?_; (first | exact Below.refl _ _ | exact below_drew (Below.refl _ _)); rintro e w3 ⟨v, rfl, hR, hB3⟩; have HR := Aside0.mk hR; have HB3 := Aside0.mk hB3; clear hR hB3)
  all_goals (go_wp2; go_ret2; exact ⟨v, by first | rfl | (rw [rfl]; rfl), by first | exact Kd.R_lower HR.out HF.out.size | (rw [HI.out]; exact Kd.R_lower HR.out HF.out.size), HF.out.trans ((below_drew (Below.refl _ _)).trans HB3.out |>.mono HF.out.size)⟩)

def idOf (l0 l1 : List Int) : List Int × Bool := if l1.length = 0 then (l0, true) else if idGood (strOfNums l1).data.toList = true then (idBytes (strOfNums l1).data.toList, true) else (l0, false)
theorem idft_calls (A0 : Option Addr) (c0 : Nat) (l0 : List Int) (A1 : Option Addr) (c1 : Nat) (l1 : List Int) (w : World) (hr0 : Kd.C (Kd.int .u8) w A0 l0.length l0) (hr1 : Kd.C (Kd.int .u8) w A1 l1.length l1) (h12 : l0.length = 12) (hlaid : Laid0 w) :
    Calls Tryd.prog 8 #[.slice A0 l0.length c0, .slice A1 l1.length c1] w fun e w' => ∃ v, e = .returned (.tuple #[v, .bool (idOf l0 l1).2]) ∧ Kd.R (Kd.int .u8) 5 w' w.heap.size (fun _ => True) v (idOf l0 l1).1 ∧ Below w.heap.size w w' := by
  obtain ⟨a0, a1, a2, a3, a4, a5, a6, a7, a8, a9, a10, a11, rfl⟩ := list12 l0 h12
  obtain ⟨_, _, hcell⟩ := Kd.reads_of_C (enc := Value.int .u8) (d := (0 : Int)) (h1 := fun _ => rfl) hr0
  obtain ⟨ad, rfl, hat⟩ := hcell (by show 0 < 12; omega)
  have hc : ∀ j v, ([.int .u8 a0, .int .u8 a1, .int .u8 a2, .int .u8 a3, .int .u8 a4, .int .u8 a5, .int .u8 a6, .int .u8 a7, .int .u8 a8, .int .u8 a9, .int .u8 a10, .int .u8 a11] : List Value)[j]? = some v → w.cell? (ad.add j) = some v := by
    intro j v hv
    have hv2 : ([a0, a1, a2, a3, a4, a5, a6, a7, a8, a9, a10, a11].map (Value.int .u8))[j]? = some v := hv
    rw [List.getElem?_map] at hv2
    obtain ⟨x, hx, rfl⟩ := Option.map_eq_some_iff.1 hv2
    have hj := (List.getElem?_eq_some_iff.1 hx).1
    have := hat j hj
    rw [List.getD_eq_getElem?_getD, hx] at this
    exact this
  unfold idOf
  by_cases h0 : l1.length = 0
  · rw [if_pos h0]
    have := idft_nil ad c0 A1 c1 l1 a0 a1 a2 a3 a4 a5 a6 a7 a8 a9 a10 a11 w hc hr1 hlaid
    rw [h0]
    exact this
  · rw [if_neg h0]
    by_cases hg : idGood (strOfNums l1).data.toList = true
    · rw [if_pos hg]
      exact idft_good ad c0 A1 c1 l1 a0 a1 a2 a3 a4 a5 a6 a7 a8 a9 a10 a11 w hc hr1 hlaid (by omega) hg
    · rw [if_neg hg]
      exact idft_bad ad c0 A1 c1 l1 a0 a1 a2 a3 a4 a5 a6 a7 a8 a9 a10 a11 w hc hr1 hlaid (by omega) (by simpa using hg)

end Go.Proofs.YthlpmeiihchdjaaDoor.Bid
