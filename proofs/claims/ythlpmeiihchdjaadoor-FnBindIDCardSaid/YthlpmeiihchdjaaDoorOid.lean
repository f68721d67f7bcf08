/- Walks by hand of functions of this seat. Conditions: as each theorem states them. -/
import Derived.Test.YthlpmeiihchdjaaDoorProg
import Derived.Test.YthlpmeiihchdjaaDoorHW
import Derived.Below
import Derived.Deep.Draws
import Derived.OwnWalk
import Derived.Tactics
import Derived.WalkKit
import Derived.KernelRfl
import Derived.RowKit3
import Derived.Deep.LoopGhost
import Derived.Deep.QuietTactic
import Derived.BigQuiet
import Derived.WideLaws
import Derived.Deep.DeepCutAuto
import Derived.Deep.CutBlock
import Derived.Laws.Rows
import Derived.Outline
import Derived.StillTailTactics
import Derived.Deep.RegionHeld3
import Derived.Test.YthlpmeiihchdjaaDoorShelf
import Derived.Lib.ConvBytes
import Derived.Shelf.Hex.Tagged
import Derived.Lib.HexFns2
import Derived.Test.YthlpmeiihchdjaaDoorPZx0
namespace Go.Proofs.YthlpmeiihchdjaaDoor.Oid
open Go.RowKit Go.Proofs.YthlpmeiihchdjaaDoorW.PrintWords Go.Proofs.YthlpmeiihchdjaaDoorW.PrintLast Go.Proofs.YthlpmeiihchdjaaDoorW.PrintMore
set_option linter.unusedVariables false
set_option linter.unusedSimpArgs false
open Go.Lib
theorem own : ownKnob Tryd.prog.godebug = none := by kernel_rfl
/-- What the variables hold that an identifier of a text may lead to. -/
def Laid0 (w : World) : Prop := (∃ T p, w.cell? ⟨5, 0, none⟩ = some (.iface T p)) ∧ (∃ T p, w.cell? ⟨7, 0, none⟩ = some (.iface T p)) ∧ ∀ i, i < 12 → w.cell? ⟨4, i, none⟩ = some (.int .u8 0)
set_option maxHeartbeats 1000000 in
set_option maxRecDepth 100000 in
theorem oid_not (s : ByteArray) (w : World) (hg : Laid0 w) (hs : s.size ≠ 24) :
    Calls Tryd.prog 30 #[.string s] w fun e w' => (∃ T p, e = .returned (.tuple #[.agg #[.int .u8 0, .int .u8 0, .int .u8 0, .int .u8 0, .int .u8 0, .int .u8 0, .int .u8 0, .int .u8 0, .int .u8 0, .int .u8 0, .int .u8 0, .int .u8 0], .iface T p])) ∧ Below w.heap.size w w' := by
  obtain ⟨⟨T, p, h5⟩, _, h4⟩ := hg
  have c0 := h4 0 (by omega); have c1 := h4 1 (by omega); have c2 := h4 2 (by omega); have c3 := h4 3 (by omega)
  have c4 := h4 4 (by omega); have c5 := h4 5 (by omega); have c6 := h4 6 (by omega); have c7 := h4 7 (by omega)
  have c8 := h4 8 (by omega); have c9 := h4 9 (by omega); have c10 := h4 10 (by omega); have c11 := h4 11 (by omega)
  have hne : ((s.size : Int) = 24) = False := eq_false (by omega)
  have g5 := World.block_lt_of_cell? w _ h5
  have g4 := World.block_lt_of_cell? w _ c0
  have B0 : ∀ o, Below w.heap.size w (w.alloc o) := fun o => (Below.refl _ w).alloc (Nat.le_refl _) o
  have hc : ∀ o, (∀ i, i < 12 → (w.alloc o).cell? ⟨4, i, none⟩ = some (.int .u8 0)) ∧ (w.alloc o).cell? ⟨5, 0, none⟩ = some (.iface T p) := fun o => ⟨fun i hi => ((B0 o).cell (p := ⟨4, i, none⟩) g4).trans (h4 i hi), ((B0 o).cell (p := ⟨5, 0, none⟩) g5).trans h5⟩
  clear h4
  go_enter Tryd.func30, Tryd.ntmps30
  go_wp2
  have e := hc (Obj.cells
        #[Value.int IntKind.u8 0, Value.int IntKind.u8 0, Value.int IntKind.u8 0, Value.int IntKind.u8 0,
          Value.int IntKind.u8 0, Value.int IntKind.u8 0, Value.int IntKind.u8 0, Value.int IntKind.u8 0,
          Value.int IntKind.u8 0, Value.int IntKind.u8 0, Value.int IntKind.u8 0, Value.int IntKind.u8 0]
        44)
  have d0 := e.1 0 (by omega); have d1 := e.1 1 (by omega); have d2 := e.1 2 (by omega); have d3 := e.1 3 (by omega)
  have d4 := e.1 4 (by omega); have d5 := e.1 5 (by omega); have d6 := e.1 6 (by omega); have d7 := e.1 7 (by omega)
  have d8 := e.1 8 (by omega); have d9 := e.1 9 (by omega); have d10 := e.1 10 (by omega); have d11 := e.1 11 (by omega)
  have dd := e.2
  clear e hc
  clear c0 c1 c2 c3 c4 c5 c6 c7 c8 c9 c10 c11 h5
  go_region
  go_wp2
  refine bodyPost_ret (v := .tuple #[.agg #[.int .u8 0, .int .u8 0, .int .u8 0, .int .u8 0, .int .u8 0, .int .u8 0, .int .u8 0, .int .u8 0, .int .u8 0, .int .u8 0, .int .u8 0, .int .u8 0], .iface T p]) (by simp [results, Tryd.results30, go_sem]) rfl ⟨⟨T, p, rfl⟩, (B0 _).drew⟩

theorem rowP_val (D : List UInt8) (j : Nat) : Hx.rowP (fun _ => .int .u8 0) 0 D j = .int .u8 ((D[j]?.getD 0).toNat : Int) := by
  unfold Hx.rowP
  by_cases h : j < D.length
  · rw [if_pos ⟨Nat.zero_le _, by omega⟩]; simp
  · rw [if_neg (by omega), List.getElem?_eq_none (by omega)]; rfl
def endOid (w : World) : List UInt8 × Hx.Out → Ending → World → Prop
  | (D1, .ok), e, w' => e = .returned (.tuple #[.agg #[.int .u8 ((D1[0]?.getD 0).toNat : Int), .int .u8 ((D1[1]?.getD 0).toNat : Int), .int .u8 ((D1[2]?.getD 0).toNat : Int), .int .u8 ((D1[3]?.getD 0).toNat : Int), .int .u8 ((D1[4]?.getD 0).toNat : Int), .int .u8 ((D1[5]?.getD 0).toNat : Int), .int .u8 ((D1[6]?.getD 0).toNat : Int), .int .u8 ((D1[7]?.getD 0).toNat : Int), .int .u8 ((D1[8]?.getD 0).toNat : Int), .int .u8 ((D1[9]?.getD 0).toNat : Int), .int .u8 ((D1[10]?.getD 0).toNat : Int), .int .u8 ((D1[11]?.getD 0).toNat : Int)], .nilIface]) ∧ Below w.heap.size w w'
  | (_, _), e, w' => (∃ T p, e = .returned (.tuple #[.agg #[.int .u8 0, .int .u8 0, .int .u8 0, .int .u8 0, .int .u8 0, .int .u8 0, .int .u8 0, .int .u8 0, .int .u8 0, .int .u8 0, .int .u8 0, .int .u8 0], .iface T p])) ∧ Below w.heap.size w w'
set_option maxHeartbeats 4000000 in
set_option maxRecDepth 100000 in
theorem oid_six (hb : ByteArray) (w : World) (hg : Laid0 w) (h6 : hb.size = 24) :
    Calls Tryd.prog 30 #[.string hb] w (endOid w (Hx.decode hb.data.toList)) := by
  generalize hD0 : Hx.decode hb.data.toList = D
  obtain ⟨D1, D2⟩ := D
  have hD : Hid (Hx.decode hb.data.toList = (D1, D2)) := hD0
  clear hD0
  obtain ⟨⟨T5, p5, h5⟩, ⟨T7, p7, hE⟩, h4⟩ := hg
  have hgl : 7 < w.heap.size := World.block_lt_of_cell? w ⟨7, 0, none⟩ hE
  have hcv := fun w => run_bytes_of_string (P := Tryd.prog) w 9 22 5 hb Tryd.underlying9 Tryd.underlying22 Tryd.underlying5
  have hne : ((hb.size : Int) = 24) = True := eq_true (by omega)
  go_enter Tryd.func30, Tryd.ntmps30
  go_wp2_with (go_at_call 38; fail)
  have hsz : (((w.alloc (.cells #[.int .u8 0, .int .u8 0, .int .u8 0, .int .u8 0, .int .u8 0, .int .u8 0, .int .u8 0, .int .u8 0, .int .u8 0, .int .u8 0, .int .u8 0, .int .u8 0] 44)).alloc (.cells #[.int .u8 0, .int .u8 0, .int .u8 0, .int .u8 0, .int .u8 0, .int .u8 0, .int .u8 0, .int .u8 0, .int .u8 0, .int .u8 0, .int .u8 0, .int .u8 0] 43))).heap.size = w.heap.size + 1 + 1 := by simp
  generalize grownCap (((w.alloc (.cells #[.int .u8 0, .int .u8 0, .int .u8 0, .int .u8 0, .int .u8 0, .int .u8 0, .int .u8 0, .int .u8 0, .int .u8 0, .int .u8 0, .int .u8 0, .int .u8 0] 44)).alloc (.cells #[.int .u8 0, .int .u8 0, .int .u8 0, .int .u8 0, .int .u8 0, .int .u8 0, .int .u8 0, .int .u8 0, .int .u8 0, .int .u8 0, .int .u8 0, .int .u8 0] 43))) 24 0 5 = cap
  have hB : ∀ o, Below w.heap.size w (((((w.alloc (.cells #[.int .u8 0, .int .u8 0, .int .u8 0, .int .u8 0, .int .u8 0, .int .u8 0, .int .u8 0, .int .u8 0, .int .u8 0, .int .u8 0, .int .u8 0, .int .u8 0] 44)).alloc (.cells #[.int .u8 0, .int .u8 0, .int .u8 0, .int .u8 0, .int .u8 0, .int .u8 0, .int .u8 0, .int .u8 0, .int .u8 0, .int .u8 0, .int .u8 0, .int .u8 0] 43)))).alloc o).drew := fun o => ((((Below.refl _ w).alloc (Nat.le_refl _) _).alloc (by simp) _).alloc (by simp; omega) o).drew
  have hrow0 : ∀ o, (((((w.alloc (.cells #[.int .u8 0, .int .u8 0, .int .u8 0, .int .u8 0, .int .u8 0, .int .u8 0, .int .u8 0, .int .u8 0, .int .u8 0, .int .u8 0, .int .u8 0, .int .u8 0] 44)).alloc (.cells #[.int .u8 0, .int .u8 0, .int .u8 0, .int .u8 0, .int .u8 0, .int .u8 0, .int .u8 0, .int .u8 0, .int .u8 0, .int .u8 0, .int .u8 0, .int .u8 0] 43)))).alloc o).drew.rowIs (w.heap.size + 1) 43 12 (fun _ => .int .u8 0) := fun o => by
    have := ((World.rowIs_alloc (w.alloc (.cells #[.int .u8 0, .int .u8 0, .int .u8 0, .int .u8 0, .int .u8 0, .int .u8 0, .int .u8 0, .int .u8 0, .int .u8 0, .int .u8 0, .int .u8 0, .int .u8 0] 44)) #[.int .u8 0, .int .u8 0, .int .u8 0, .int .u8 0, .int .u8 0, .int .u8 0, .int .u8 0, .int .u8 0, .int .u8 0, .int .u8 0, .int .u8 0, .int .u8 0] 43 (fun _ => .int .u8 0) (by
      intro i hi
      have : i = 0 ∨ i = 1 ∨ i = 2 ∨ i = 3 ∨ i = 4 ∨ i = 5 ∨ i = 6 ∨ i = 7 ∨ i = 8 ∨ i = 9 ∨ i = 10 ∨ i = 11 := by simp at hi; omega
      rcases this with rfl | rfl | rfl | rfl | rfl | rfl | rfl | rfl | rfl | rfl | rfl | rfl <;> rfl)).alloc o).drew
    simpa using this
  have hc := Tryd.hex_Decode_tag 43 (w.heap.size + 1) 0 12 12 12 (fun _ => .int .u8 0) (w.heap.size + 1 + 1) 0 24 cap (Hx.numsOf hb) (((((w.alloc (.cells #[.int .u8 0, .int .u8 0, .int .u8 0, .int .u8 0, .int .u8 0, .int .u8 0, .int .u8 0, .int .u8 0, .int .u8 0, .int .u8 0, .int .u8 0, .int .u8 0] 44)).alloc (.cells #[.int .u8 0, .int .u8 0, .int .u8 0, .int .u8 0, .int .u8 0, .int .u8 0, .int .u8 0, .int .u8 0, .int .u8 0, .int .u8 0, .int .u8 0, .int .u8 0] 43)))).alloc (.cells (bytesRow hb cap) 5 ((bytesRow hb cap).size, (bytesRow hb cap).size + 1))).drew (.iface T7 p7) (by rw [Hx.numsOf_length, h6]) (fun i _ => Hx.numsOf_range hb i)
    (fun i hi => by
      show (((((w.alloc (.cells #[.int .u8 0, .int .u8 0, .int .u8 0, .int .u8 0, .int .u8 0, .int .u8 0, .int .u8 0, .int .u8 0, .int .u8 0, .int .u8 0, .int .u8 0, .int .u8 0] 44)).alloc (.cells #[.int .u8 0, .int .u8 0, .int .u8 0, .int .u8 0, .int .u8 0, .int .u8 0, .int .u8 0, .int .u8 0, .int .u8 0, .int .u8 0, .int .u8 0, .int .u8 0] 43)))).alloc _).cell? _ = _
      rw [← hsz, Nat.zero_add, World.cell?_alloc_mark, bytesRow_at hb _ i (by show i < hb.size; rw [h6]; exact hi), Hx.numsOf_at hb i (by show i < hb.size; rw [h6]; exact hi)])
    (hrow0 _) (by omega) (by omega) (by omega) (by omega) (((hB _).cell (p := ⟨7, 0, none⟩) hgl).trans hE) (by omega)
  rw [Hx.bytesOf_numsOf, hD.out] at hc
  refine hc.mono ?_
  rintro e w2 ⟨rfl, hrow', hgrow⟩
  have hB2 : Below w.heap.size w w2 := (hB _).grown hgrow (by simp; omega) (fun k hk => by cases hk; omega)
  have r0 : ∀ j, j < 12 → w2.cell? ⟨w.heap.size, j, none⟩ = some (.int .u8 0) ∧ w2.frozen? ⟨w.heap.size, j, none⟩ = false := by
    intro j hj
    have hblk := hgrow.block w.heap.size (by simp; omega) (by simp)
    refine ⟨(World.cell?_of_block hblk).trans ?_, (World.frozen?_of_block hblk).trans ?_⟩
    · have : j = 0 ∨ j = 1 ∨ j = 2 ∨ j = 3 ∨ j = 4 ∨ j = 5 ∨ j = 6 ∨ j = 7 ∨ j = 8 ∨ j = 9 ∨ j = 10 ∨ j = 11 := by omega
      rcases this with rfl | rfl | rfl | rfl | rfl | rfl | rfl | rfl | rfl | rfl | rfl | rfl <;> go_simp
    · have : j = 0 ∨ j = 1 ∨ j = 2 ∨ j = 3 ∨ j = 4 ∨ j = 5 ∨ j = 6 ∨ j = 7 ∨ j = 8 ∨ j = 9 ∨ j = 10 ∨ j = 11 := by omega
      rcases this with rfl | rfl | rfl | rfl | rfl | rfl | rfl | rfl | rfl | rfl | rfl | rfl <;> go_simp
  have g0 : ∀ j, j < 12 → w2.cell? ⟨4, j, none⟩ = some (.int .u8 0) := fun j hj => (hB2.cell (p := ⟨4, j, none⟩) (World.block_lt_of_cell? w ⟨4, 0, none⟩ (h4 0 (by omega)))).trans (h4 j hj)
  have k0 := (hrow'.cell (i := 0) (by omega)).trans (congrArg some (rowP_val D1 _)); have k1 := (hrow'.cell (i := 1) (by omega)).trans (congrArg some (rowP_val D1 _)); have k2 := (hrow'.cell (i := 2) (by omega)).trans (congrArg some (rowP_val D1 _)); have k3 := (hrow'.cell (i := 3) (by omega)).trans (congrArg some (rowP_val D1 _))
  have k4 := (hrow'.cell (i := 4) (by omega)).trans (congrArg some (rowP_val D1 _)); have k5 := (hrow'.cell (i := 5) (by omega)).trans (congrArg some (rowP_val D1 _)); have k6 := (hrow'.cell (i := 6) (by omega)).trans (congrArg some (rowP_val D1 _)); have k7 := (hrow'.cell (i := 7) (by omega)).trans (congrArg some (rowP_val D1 _))
  have k8 := (hrow'.cell (i := 8) (by omega)).trans (congrArg some (rowP_val D1 _)); have k9 := (hrow'.cell (i := 9) (by omega)).trans (congrArg some (rowP_val D1 _)); have k10 := (hrow'.cell (i := 10) (by omega)).trans (congrArg some (rowP_val D1 _)); have k11 := (hrow'.cell (i := 11) (by omega)).trans (congrArg some (rowP_val D1 _))
  have q0 := (r0 0 (by omega)).1; have q1 := (r0 1 (by omega)).1; have q2 := (r0 2 (by omega)).1; have q3 := (r0 3 (by omega)).1
  have q4 := (r0 4 (by omega)).1; have q5 := (r0 5 (by omega)).1; have q6 := (r0 6 (by omega)).1; have q7 := (r0 7 (by omega)).1
  have q8 := (r0 8 (by omega)).1; have q9 := (r0 9 (by omega)).1; have q10 := (r0 10 (by omega)).1; have q11 := (r0 11 (by omega)).1
  have z0 := (r0 0 (by omega)).2; have z1 := (r0 1 (by omega)).2; have z2 := (r0 2 (by omega)).2; have z3 := (r0 3 (by omega)).2
  have z4 := (r0 4 (by omega)).2; have z5 := (r0 5 (by omega)).2; have z6 := (r0 6 (by omega)).2; have z7 := (r0 7 (by omega)).2
  have z8 := (r0 8 (by omega)).2; have z9 := (r0 9 (by omega)).2; have z10 := (r0 10 (by omega)).2; have z11 := (r0 11 (by omega)).2
  have c0 := g0 0 (by omega); have c1 := g0 1 (by omega); have c2 := g0 2 (by omega); have c3 := g0 3 (by omega)
  have c4 := g0 4 (by omega); have c5 := g0 5 (by omega); have c6 := g0 6 (by omega); have c7 := g0 7 (by omega)
  have c8 := g0 8 (by omega); have c9 := g0 9 (by omega); have c10 := g0 10 (by omega); have c11 := g0 11 (by omega)
  have hlt2 : w.heap.size < w2.heap.size := World.block_lt_of_cell? _ _ q0
  have bl := fun v0 v1 v2 v3 v4 v5 v6 v7 v8 v9 v10 v11 => ((((((((((((hB2.setCell (p := ⟨w.heap.size, 0, none⟩) (Nat.le_refl _) v0).setCell (p := ⟨w.heap.size, 1, none⟩) (Nat.le_refl _) v1).setCell (p := ⟨w.heap.size, 2, none⟩) (Nat.le_refl _) v2).setCell (p := ⟨w.heap.size, 3, none⟩) (Nat.le_refl _) v3).setCell (p := ⟨w.heap.size, 4, none⟩) (Nat.le_refl _) v4).setCell (p := ⟨w.heap.size, 5, none⟩) (Nat.le_refl _) v5).setCell (p := ⟨w.heap.size, 6, none⟩) (Nat.le_refl _) v6).setCell (p := ⟨w.heap.size, 7, none⟩) (Nat.le_refl _) v7).setCell (p := ⟨w.heap.size, 8, none⟩) (Nat.le_refl _) v8).setCell (p := ⟨w.heap.size, 9, none⟩) (Nat.le_refl _) v9).setCell (p := ⟨w.heap.size, 10, none⟩) (Nat.le_refl _) v10).setCell (p := ⟨w.heap.size, 11, none⟩) (Nat.le_refl _) v11)
  have GB := Aside0.mk hB2
  clear hc hrow' hgrow r0 hrow0 hB hcv g0 h4 h5 hE hgl hB2 hsz
  cases D2 with
  | ok =>
    simp only [Hx.errVal]
    clear c0 c1 c2 c3 c4 c5 c6 c7 c8 c9 c10 c11
    go_wp2
    refine bodyPost_ret (v := .tuple #[.agg #[.int .u8 ((D1[0]?.getD 0).toNat : Int), .int .u8 ((D1[1]?.getD 0).toNat : Int), .int .u8 ((D1[2]?.getD 0).toNat : Int), .int .u8 ((D1[3]?.getD 0).toNat : Int), .int .u8 ((D1[4]?.getD 0).toNat : Int), .int .u8 ((D1[5]?.getD 0).toNat : Int), .int .u8 ((D1[6]?.getD 0).toNat : Int), .int .u8 ((D1[7]?.getD 0).toNat : Int), .int .u8 ((D1[8]?.getD 0).toNat : Int), .int .u8 ((D1[9]?.getD 0).toNat : Int), .int .u8 ((D1[10]?.getD 0).toNat : Int), .int .u8 ((D1[11]?.getD 0).toNat : Int)], .nilIface]) (by simp [results, Tryd.results30, go_sem, q0, q1, q2, q3, q4, q5, q6, q7, q8, q9, q10, q11]) rfl
      ⟨rfl, bl _ _ _ _ _ _ _ _ _ _ _ _⟩
  | bad c =>
    simp only [Hx.errVal]
    clear k0 k1 k2 k3 k4 k5 k6 k7 k8 k9 k10 k11
    go_wp2
    refine bodyPost_ret (v := .tuple #[.agg #[.int .u8 0, .int .u8 0, .int .u8 0, .int .u8 0, .int .u8 0, .int .u8 0, .int .u8 0, .int .u8 0, .int .u8 0, .int .u8 0, .int .u8 0, .int .u8 0], .iface 103 (.int .u8 c.toNat)]) (by simp [results, Tryd.results30, go_sem, q0, q1, q2, q3, q4, q5, q6, q7, q8, q9, q10, q11]) rfl ⟨⟨_, _, rfl⟩, bl _ _ _ _ _ _ _ _ _ _ _ _⟩
  | odd =>
    simp only [Hx.errVal]
    clear k0 k1 k2 k3 k4 k5 k6 k7 k8 k9 k10 k11
    go_wp2
    refine bodyPost_ret (v := .tuple #[.agg #[.int .u8 0, .int .u8 0, .int .u8 0, .int .u8 0, .int .u8 0, .int .u8 0, .int .u8 0, .int .u8 0, .int .u8 0, .int .u8 0, .int .u8 0, .int .u8 0], .iface T7 p7]) (by simp [results, Tryd.results30, go_sem, q0, q1, q2, q3, q4, q5, q6, q7, q8, q9, q10, q11]) rfl ⟨⟨_, _, rfl⟩, bl _ _ _ _ _ _ _ _ _ _ _ _⟩

def idBytes (l : List UInt8) : List Int := if l.length = 24 then (match Hx.decode l with | (D, .ok) => (List.range 12).map (fun i => ((D[i]?.getD 0).toNat : Int)) | _ => List.replicate 12 0) else List.replicate 12 0
def idGood (l : List UInt8) : Bool := if l.length = 24 then (match Hx.decode l with | (_, .ok) => true | _ => false) else false
theorem oid_any (s : ByteArray) (w : World) (hg : Laid0 w) :
    Calls Tryd.prog 30 #[.string s] w fun e w' => ∃ b0 b1 b2 b3 b4 b5 b6 b7 b8 b9 b10 b11 ev, e = .returned (.tuple #[.agg #[.int .u8 b0, .int .u8 b1, .int .u8 b2, .int .u8 b3, .int .u8 b4, .int .u8 b5, .int .u8 b6, .int .u8 b7, .int .u8 b8, .int .u8 b9, .int .u8 b10, .int .u8 b11], ev]) ∧ idBytes s.data.toList = [b0, b1, b2, b3, b4, b5, b6, b7, b8, b9, b10, b11] ∧ (ev = .nilIface ∧ idGood s.data.toList = true ∨ (∃ T p, ev = .iface T p) ∧ idGood s.data.toList = false) ∧ Below w.heap.size w w' := by
  have hl : s.data.toList.length = s.size := by rw [Array.length_toList]; rfl
  by_cases h6 : s.size = 24
  · refine (oid_six s w hg h6).mono ?_
    intro e w' h
    unfold idBytes idGood
    rw [if_pos (hl.trans h6), if_pos (hl.trans h6)]
    generalize Hx.decode s.data.toList = D at h ⊢
    obtain ⟨D1, D2⟩ := D
    cases D2 with
    | ok => exact ⟨_, _, _, _, _, _, _, _, _, _, _, _, _, h.1, rfl, .inl ⟨rfl, rfl⟩, h.2⟩
    | bad c => obtain ⟨⟨T, p, rfl⟩, hb⟩ := h; exact ⟨_, _, _, _, _, _, _, _, _, _, _, _, _, rfl, rfl, .inr ⟨⟨T, p, rfl⟩, rfl⟩, hb⟩
    | odd => obtain ⟨⟨T, p, rfl⟩, hb⟩ := h; exact ⟨_, _, _, _, _, _, _, _, _, _, _, _, _, rfl, rfl, .inr ⟨⟨T, p, rfl⟩, rfl⟩, hb⟩
  · refine (oid_not s w hg h6).mono ?_
    intro e w' h
    unfold idBytes idGood
    rw [if_neg (by rw [hl]; exact h6), if_neg (by rw [hl]; exact h6)]
    obtain ⟨⟨T, p, rfl⟩, hb⟩ := h
    exact ⟨_, _, _, _, _, _, _, _, _, _, _, _, _, rfl, rfl, .inr ⟨⟨T, p, rfl⟩, rfl⟩, hb⟩
theorem Laid0.below {w w' : World} (h : Laid0 w) {n : Nat} (hn : 7 < n) (hb : Below n w w') : Laid0 w' := by
  obtain ⟨⟨T, p, h5⟩, ⟨T7, p7, h7⟩, h4⟩ := h
  exact ⟨⟨T, p, (hb.cell (p := ⟨5, 0, none⟩) (by show 5 < n; omega)).trans h5⟩, ⟨T7, p7, (hb.cell (p := ⟨7, 0, none⟩) (by show 7 < n; omega)).trans h7⟩, fun i hi => (hb.cell (p := ⟨4, i, none⟩) (by show 4 < n; omega)).trans (h4 i hi)⟩
theorem Laid0.lt {w : World} (h : Laid0 w) : 7 < w.heap.size := by
  obtain ⟨_, ⟨T7, p7, h7⟩, _⟩ := h
  exact World.block_lt_of_cell? w ⟨7, 0, none⟩ h7

end Go.Proofs.YthlpmeiihchdjaaDoor.Oid
