import Derived.Test.YtanecebppagakaaGreatDoorPRxx0
import Derived.Test.YtanecebppagakaaGreatDoorPRxx1
import Derived.Test.YtanecebppagakaaGreatDoorPRxx2
import Derived.Test.YtanecebppagakaaGreatDoorPRxx3
import Derived.Test.YtanecebppagakaaGreatDoorPRxx5
namespace Go.Proofs.YtanecebppagakaaGreatDoor.PRx
open Go.RowKit Go.Proofs.YtanecebppagakaaGreatDoorW.PrintWords Go.Proofs.YtanecebppagakaaGreatDoorW.PrintLast Go.Proofs.YtanecebppagakaaGreatDoorW.PrintMore
attribute [local go_sem] max2_int min2_int max_two min_two max_three min_three max_four min_four
set_option linter.unusedVariables false
set_option maxHeartbeats 4000000
set_option maxRecDepth 100000
set_option linter.unusedSimpArgs false
theorem set8 {w : World} {g t : Nat} {a0 a1 a2 a3 a4 a5 a6 a7 b0 b1 b2 b3 b4 b5 b6 b7 : Value} (hz : w.heap[g]? = some (.cells #[a0, a1, a2, a3, a4, a5, a6, a7] t (0, 0))) : ((((((((w.setCell ⟨g, 0, none⟩ b0).setCell ⟨g, 1, none⟩ b1).setCell ⟨g, 2, none⟩ b2).setCell ⟨g, 3, none⟩ b3).setCell ⟨g, 4, none⟩ b4).setCell ⟨g, 5, none⟩ b5).setCell ⟨g, 6, none⟩ b6).setCell ⟨g, 7, none⟩ b7).heap[g]? = some (.cells #[b0, b1, b2, b3, b4, b5, b6, b7] t (0, 0)) := by
  have h := (blk_set (blk_set (blk_set (blk_set (blk_set (blk_set (blk_set (blk_set hz 0 b0) 1 b1) 2 b2) 3 b3) 4 b4) 5 b5) 6 b6) 7 b7)
  simpa only [List.setIfInBounds_toArray, List.set_cons_zero, List.set_cons_succ] using h
theorem set8_R {α : Type} {dk : Kd α} {ty base : Nat} {ok : Nat → Prop} {v : Value} {xs : List α} {w : World} {g : Nat} {b0 b1 b2 b3 b4 b5 b6 b7 : Value} (h : dk.R ty w base ok v xs) (hk : ∀ k, ok k → k ≠ g) : dk.R ty ((((((((w.setCell ⟨g, 0, none⟩ b0).setCell ⟨g, 1, none⟩ b1).setCell ⟨g, 2, none⟩ b2).setCell ⟨g, 3, none⟩ b3).setCell ⟨g, 4, none⟩ b4).setCell ⟨g, 5, none⟩ b5).setCell ⟨g, 6, none⟩ b6).setCell ⟨g, 7, none⟩ b7) base ok v xs := (Kd.R_far (p := ⟨g, 7, none⟩) (Kd.R_far (p := ⟨g, 6, none⟩) (Kd.R_far (p := ⟨g, 5, none⟩) (Kd.R_far (p := ⟨g, 4, none⟩) (Kd.R_far (p := ⟨g, 3, none⟩) (Kd.R_far (p := ⟨g, 2, none⟩) (Kd.R_far (p := ⟨g, 1, none⟩) (Kd.R_far (p := ⟨g, 0, none⟩) h hk b0) hk b1) hk b2) hk b3) hk b4) hk b5) hk b6) hk b7)
theorem set8_B {w0 w : World} {g : Nat} {b0 b1 b2 b3 b4 b5 b6 b7 : Value} (h : Below w0.heap.size w0 w) (hg : w0.heap.size ≤ g) : Below w0.heap.size w0 ((((((((w.setCell ⟨g, 0, none⟩ b0).setCell ⟨g, 1, none⟩ b1).setCell ⟨g, 2, none⟩ b2).setCell ⟨g, 3, none⟩ b3).setCell ⟨g, 4, none⟩ b4).setCell ⟨g, 5, none⟩ b5).setCell ⟨g, 6, none⟩ b6).setCell ⟨g, 7, none⟩ b7) := (below_set (j := 7) (v := b7) (below_set (j := 6) (v := b6) (below_set (j := 5) (v := b5) (below_set (j := 4) (v := b4) (below_set (j := 3) (v := b3) (below_set (j := 2) (v := b2) (below_set (j := 1) (v := b1) (below_set (j := 0) (v := b0) h hg) hg) hg) hg) hg) hg) hg) hg)
theorem g8 {w : World} {g t : Nat} {a0 a1 a2 a3 a4 a5 a6 a7 : Value} (hz : w.heap[g]? = some (.cells #[a0, a1, a2, a3, a4, a5, a6, a7] t (0, 0))) : w.cell? ⟨g, 0, none⟩ = some a0 ∧ w.cell? ⟨g, 1, none⟩ = some a1 ∧ w.cell? ⟨g, 2, none⟩ = some a2 ∧ w.cell? ⟨g, 3, none⟩ = some a3 ∧ w.cell? ⟨g, 4, none⟩ = some a4 ∧ w.cell? ⟨g, 5, none⟩ = some a5 ∧ w.cell? ⟨g, 6, none⟩ = some a6 ∧ w.cell? ⟨g, 7, none⟩ = some a7 ∧ w.frozen? ⟨g, 0, none⟩ = false ∧ w.frozen? ⟨g, 1, none⟩ = false ∧ w.frozen? ⟨g, 2, none⟩ = false ∧ w.frozen? ⟨g, 3, none⟩ = false ∧ w.frozen? ⟨g, 4, none⟩ = false ∧ w.frozen? ⟨g, 5, none⟩ = false ∧ w.frozen? ⟨g, 6, none⟩ = false ∧ w.frozen? ⟨g, 7, none⟩ = false := ⟨(blk_cell hz 0).trans rfl, (blk_cell hz 1).trans rfl, (blk_cell hz 2).trans rfl, (blk_cell hz 3).trans rfl, (blk_cell hz 4).trans rfl, (blk_cell hz 5).trans rfl, (blk_cell hz 6).trans rfl, (blk_cell hz 7).trans rfl, blk_frozen hz 0, blk_frozen hz 1, blk_frozen hz 2, blk_frozen hz 3, blk_frozen hz 4, blk_frozen hz 5, blk_frozen hz 6, blk_frozen hz 7⟩
theorem set12 {w : World} {g t : Nat} {a0 a1 a2 a3 a4 a5 a6 a7 a8 a9 a10 a11 b0 b1 b2 b3 b4 b5 b6 b7 b8 b9 b10 b11 : Value} (hz : w.heap[g]? = some (.cells #[a0, a1, a2, a3, a4, a5, a6, a7, a8, a9, a10, a11] t (0, 0))) : ((((((((((((w.setCell ⟨g, 0, none⟩ b0).setCell ⟨g, 1, none⟩ b1).setCell ⟨g, 2, none⟩ b2).setCell ⟨g, 3, none⟩ b3).setCell ⟨g, 4, none⟩ b4).setCell ⟨g, 5, none⟩ b5).setCell ⟨g, 6, none⟩ b6).setCell ⟨g, 7, none⟩ b7).setCell ⟨g, 8, none⟩ b8).setCell ⟨g, 9, none⟩ b9).setCell ⟨g, 10, none⟩ b10).setCell ⟨g, 11, none⟩ b11).heap[g]? = some (.cells #[b0, b1, b2, b3, b4, b5, b6, b7, b8, b9, b10, b11] t (0, 0)) := by
  have h := (blk_set (blk_set (blk_set (blk_set (blk_set (blk_set (blk_set (blk_set (blk_set (blk_set (blk_set (blk_set hz 0 b0) 1 b1) 2 b2) 3 b3) 4 b4) 5 b5) 6 b6) 7 b7) 8 b8) 9 b9) 10 b10) 11 b11)
  simpa only [List.setIfInBounds_toArray, List.set_cons_zero, List.set_cons_succ] using h
theorem set12_V {α : Type} {dk : Kd α} {ty base : Nat} {ok : Nat → Prop} {v : Value} {xs : List α} {w : World} {g : Nat} {b0 b1 b2 b3 b4 b5 b6 b7 b8 b9 b10 b11 : Value} (h : dk.V ty w base ok v xs) (hk : ∀ k, ok k → k ≠ g) : dk.V ty ((((((((((((w.setCell ⟨g, 0, none⟩ b0).setCell ⟨g, 1, none⟩ b1).setCell ⟨g, 2, none⟩ b2).setCell ⟨g, 3, none⟩ b3).setCell ⟨g, 4, none⟩ b4).setCell ⟨g, 5, none⟩ b5).setCell ⟨g, 6, none⟩ b6).setCell ⟨g, 7, none⟩ b7).setCell ⟨g, 8, none⟩ b8).setCell ⟨g, 9, none⟩ b9).setCell ⟨g, 10, none⟩ b10).setCell ⟨g, 11, none⟩ b11) base ok v xs := (Kd.V_far (p := ⟨g, 11, none⟩) (Kd.V_far (p := ⟨g, 10, none⟩) (Kd.V_far (p := ⟨g, 9, none⟩) (Kd.V_far (p := ⟨g, 8, none⟩) (Kd.V_far (p := ⟨g, 7, none⟩) (Kd.V_far (p := ⟨g, 6, none⟩) (Kd.V_far (p := ⟨g, 5, none⟩) (Kd.V_far (p := ⟨g, 4, none⟩) (Kd.V_far (p := ⟨g, 3, none⟩) (Kd.V_far (p := ⟨g, 2, none⟩) (Kd.V_far (p := ⟨g, 1, none⟩) (Kd.V_far (p := ⟨g, 0, none⟩) h hk b0) hk b1) hk b2) hk b3) hk b4) hk b5) hk b6) hk b7) hk b8) hk b9) hk b10) hk b11)
theorem set12_B {w0 w : World} {g : Nat} {b0 b1 b2 b3 b4 b5 b6 b7 b8 b9 b10 b11 : Value} (h : Below w0.heap.size w0 w) (hg : w0.heap.size ≤ g) : Below w0.heap.size w0 ((((((((((((w.setCell ⟨g, 0, none⟩ b0).setCell ⟨g, 1, none⟩ b1).setCell ⟨g, 2, none⟩ b2).setCell ⟨g, 3, none⟩ b3).setCell ⟨g, 4, none⟩ b4).setCell ⟨g, 5, none⟩ b5).setCell ⟨g, 6, none⟩ b6).setCell ⟨g, 7, none⟩ b7).setCell ⟨g, 8, none⟩ b8).setCell ⟨g, 9, none⟩ b9).setCell ⟨g, 10, none⟩ b10).setCell ⟨g, 11, none⟩ b11) := (below_set (j := 11) (v := b11) (below_set (j := 10) (v := b10) (below_set (j := 9) (v := b9) (below_set (j := 8) (v := b8) (below_set (j := 7) (v := b7) (below_set (j := 6) (v := b6) (below_set (j := 5) (v := b5) (below_set (j := 4) (v := b4) (below_set (j := 3) (v := b3) (below_set (j := 2) (v := b2) (below_set (j := 1) (v := b1) (below_set (j := 0) (v := b0) h hg) hg) hg) hg) hg) hg) hg) hg) hg) hg) hg) hg)
theorem set12_O {w : World} {g k t : Nat} {cs : Array Value} {b0 b1 b2 b3 b4 b5 b6 b7 b8 b9 b10 b11 : Value} (hz : w.heap[k]? = some (.cells cs t (0, 0))) (hk : k ≠ g) : ((((((((((((w.setCell ⟨g, 0, none⟩ b0).setCell ⟨g, 1, none⟩ b1).setCell ⟨g, 2, none⟩ b2).setCell ⟨g, 3, none⟩ b3).setCell ⟨g, 4, none⟩ b4).setCell ⟨g, 5, none⟩ b5).setCell ⟨g, 6, none⟩ b6).setCell ⟨g, 7, none⟩ b7).setCell ⟨g, 8, none⟩ b8).setCell ⟨g, 9, none⟩ b9).setCell ⟨g, 10, none⟩ b10).setCell ⟨g, 11, none⟩ b11).heap[k]? = some (.cells cs t (0, 0)) := (blk_far (blk_far (blk_far (blk_far (blk_far (blk_far (blk_far (blk_far (blk_far (blk_far (blk_far (blk_far hz (p := ⟨g, 0, none⟩) hk b0) (p := ⟨g, 1, none⟩) hk b1) (p := ⟨g, 2, none⟩) hk b2) (p := ⟨g, 3, none⟩) hk b3) (p := ⟨g, 4, none⟩) hk b4) (p := ⟨g, 5, none⟩) hk b5) (p := ⟨g, 6, none⟩) hk b6) (p := ⟨g, 7, none⟩) hk b7) (p := ⟨g, 8, none⟩) hk b8) (p := ⟨g, 9, none⟩) hk b9) (p := ⟨g, 10, none⟩) hk b10) (p := ⟨g, 11, none⟩) hk b11)
theorem g12 {w : World} {g t : Nat} {a0 a1 a2 a3 a4 a5 a6 a7 a8 a9 a10 a11 : Value} (hz : w.heap[g]? = some (.cells #[a0, a1, a2, a3, a4, a5, a6, a7, a8, a9, a10, a11] t (0, 0))) : w.cell? ⟨g, 0, none⟩ = some a0 ∧ w.cell? ⟨g, 1, none⟩ = some a1 ∧ w.cell? ⟨g, 2, none⟩ = some a2 ∧ w.cell? ⟨g, 3, none⟩ = some a3 ∧ w.cell? ⟨g, 4, none⟩ = some a4 ∧ w.cell? ⟨g, 5, none⟩ = some a5 ∧ w.cell? ⟨g, 6, none⟩ = some a6 ∧ w.cell? ⟨g, 7, none⟩ = some a7 ∧ w.cell? ⟨g, 8, none⟩ = some a8 ∧ w.cell? ⟨g, 9, none⟩ = some a9 ∧ w.cell? ⟨g, 10, none⟩ = some a10 ∧ w.cell? ⟨g, 11, none⟩ = some a11 ∧ w.frozen? ⟨g, 0, none⟩ = false ∧ w.frozen? ⟨g, 1, none⟩ = false ∧ w.frozen? ⟨g, 2, none⟩ = false ∧ w.frozen? ⟨g, 3, none⟩ = false ∧ w.frozen? ⟨g, 4, none⟩ = false ∧ w.frozen? ⟨g, 5, none⟩ = false ∧ w.frozen? ⟨g, 6, none⟩ = false ∧ w.frozen? ⟨g, 7, none⟩ = false ∧ w.frozen? ⟨g, 8, none⟩ = false ∧ w.frozen? ⟨g, 9, none⟩ = false ∧ w.frozen? ⟨g, 10, none⟩ = false ∧ w.frozen? ⟨g, 11, none⟩ = false := ⟨(blk_cell hz 0).trans rfl, (blk_cell hz 1).trans rfl, (blk_cell hz 2).trans rfl, (blk_cell hz 3).trans rfl, (blk_cell hz 4).trans rfl, (blk_cell hz 5).trans rfl, (blk_cell hz 6).trans rfl, (blk_cell hz 7).trans rfl, (blk_cell hz 8).trans rfl, (blk_cell hz 9).trans rfl, (blk_cell hz 10).trans rfl, (blk_cell hz 11).trans rfl, blk_frozen hz 0, blk_frozen hz 1, blk_frozen hz 2, blk_frozen hz 3, blk_frozen hz 4, blk_frozen hz 5, blk_frozen hz 6, blk_frozen hz 7, blk_frozen hz 8, blk_frozen hz 9, blk_frozen hz 10, blk_frozen hz 11⟩
theorem V_reb {P : Nat → Prop} {A : Option Addr} {c b : Nat} {l : List Int} {w w' : World} (hV : Kd.V (Kd.int .u8) 5 w b P (.slice A l.length c) l) (hb : Below w.heap.size w w') (b' : Nat) : Kd.V (Kd.int .u8) 5 w' b' P (.slice A l.length c) l :=
  have h := Kd.V_below hV hb
  Kd.V_mk (Kd.V_reads' h).2.1 (Kd.V_at h).2.2
theorem gen_ {α : Type} {P : World → Prop} {w4 w : World} {g t b : Nat} {cs : Array Value} {ok : Nat → Prop} {v : Value} {xs : List Int} {X : World → Prop} (hz : w4.heap[g]? = some (.cells cs t (0, 0))) (hB : Below w.heap.size w w4) (hv : Kd.V (Kd.int .u8) 5 w4 b ok v xs) (hx : X w4)
    (h : ∀ w4 : World, w4.heap[g]? = some (.cells cs t (0, 0)) → Below w.heap.size w w4 → Kd.V (Kd.int .u8) 5 w4 b ok v xs → X w4 → P w4) : P w4 := h w4 hz hB hv hx
theorem vf {w : World} {b N j M : Nat} {v u : Value} {xs : List Int} (h : Kd.V (Kd.int .u8) 5 w b (fun k_ => k_ < N ∨ N + (M + 1) ≤ k_) v xs) : Kd.V (Kd.int .u8) 5 (w.setCell ⟨N, j, none⟩ u) b (fun k_ => k_ < N ∨ N + (M + 1) ≤ k_) v xs := Kd.V_far (p := ⟨N, j, none⟩) h (fun k_ h => by show k_ ≠ N; omega) u
theorem blk_new12 (w : World) (cs : Array Value) (t : Nat) (o : Obj) : ((w.alloc (.cells cs t)).alloc o).heap[w.heap.size]? = some (.cells cs t (0, 0)) := blk_below (blk_new w _) (below_alloc (Below.refl _ _) o)
theorem blk_new2 (w : World) (o : Obj) (cs : Array Value) (t : Nat) : ((w.alloc o).alloc (.cells cs t)).heap[w.heap.size + 1]? = some (.cells cs t (0, 0)) := by
  have h := blk_new (w.alloc o) (Obj.cells cs t)
  simp only [World.size_alloc] at h
  exact h
theorem st_ {W w3 : World} {g : Nat} {o : Obj} (hz : W.heap[g]? = some o) (hb : Below W.heap.size W w3) : w3.heap[g]? = some o ∧ g < W.heap.size := ⟨blk_below hz hb, blk_lt hz⟩
def NoPost (w : World) (o : List Int) (e : Ending) (w' : World) : Prop := ∃ v : Value, e = .returned (.tuple #[.agg #[.int .i64 0, .string ⟨#[]⟩, .string ⟨#[]⟩, .int .i64 0, .int .u64 0, .int .u64 0, .slice none 0 0, .slice none 0 0], v, .bool false]) ∧ Kd.R (Kd.int .u8) 5 w' w.heap.size (fun _ => True) v o ∧ Below w.heap.size w w'
def YesPost (w : World) (k : Int) (s1 s2 : ByteArray) (n bits high : Int) (x o : List Int) (e : Ending) (w' : World) : Prop := ∃ v2 v : Value, e = .returned (.tuple #[.agg #[.int .i64 k, .string s1, .string s2, .int .i64 n, .int .u64 bits, .int .u64 high, v2, .slice none 0 0], v, .bool true]) ∧ Kd.R (Kd.int .u8) 5 w' w.heap.size (fun k_ => some k_ ≠ (v : Value).ownBlock) v2 x ∧ Kd.R (Kd.int .u8) 5 w' w.heap.size (fun k_ => some k_ ≠ (v2 : Value).ownBlock) v o ∧ Below w.heap.size w w'
theorem bits_run (n : Nat) (w : World) : Sem.run Tryz.prog (callFunc 27 #[.float .f64 n]) w = .ok (.value (.int .u64 n)) w := by
  rw [run_callFunc_extern Tryz.func27 (by kernel_rfl) (by kernel_rfl) (by kernel_rfl) (e := Go.Extern.MathFloatBits.float64bits) (by kernel_rfl)]
  rfl
theorem frombits_run (n : Int) (w : World) : Sem.run Tryz.prog (callFunc 26 #[.int .u64 n]) w = .ok (.value (.float .f64 n.toNat)) w := by
  rw [run_callFunc_extern Tryz.func26 (by kernel_rfl) (by kernel_rfl) (by kernel_rfl) (e := Go.Extern.MathFloatBits.float64frombits) (by kernel_rfl)]
  rfl
theorem below_row {B g : Nat} {w0 w : World} (hb : Below B w0 w) (hBg : B ≤ g) (cs : Array Value) : Below B w0 (w.setRow g cs) :=
  ⟨hb.os, hb.tape, hb.output, by rw [setRow_size]; exact hb.size, fun k hk => (setRow_other w g k cs (by omega)).trans (hb.block k hk)⟩
theorem C_of_blk12 {w : World} {g t : Nat} {b0 b1 b2 b3 b4 b5 b6 b7 b8 b9 b10 b11 : Int} (hz : w.heap[g]? = some (.cells #[.int .u8 b0, .int .u8 b1, .int .u8 b2, .int .u8 b3, .int .u8 b4, .int .u8 b5, .int .u8 b6, .int .u8 b7, .int .u8 b8, .int .u8 b9, .int .u8 b10, .int .u8 b11] t (0, 0))) : Kd.C (Kd.int .u8) w (some ⟨g, 0, none⟩) [b0, b1, b2, b3, b4, b5, b6, b7, b8, b9, b10, b11].length [b0, b1, b2, b3, b4, b5, b6, b7, b8, b9, b10, b11] := by
  refine Kd.C_of_reads (d := (0 : Int)) (h1 := fun _ => rfl) ⟨rfl, by simp, fun _ => ⟨⟨g, 0, none⟩, rfl, fun j hj => ?_⟩⟩
  have e : ∀ o, World.cell? w ((⟨g, 0, none⟩ : Addr).add o) = #[.int .u8 b0, .int .u8 b1, .int .u8 b2, .int .u8 b3, .int .u8 b4, .int .u8 b5, .int .u8 b6, .int .u8 b7, .int .u8 b8, .int .u8 b9, .int .u8 b10, .int .u8 b11][o]? := fun o => by
    have h1 : (⟨g, 0, none⟩ : Addr).add o = ⟨g, o, none⟩ := by
      unfold Addr.add
      split
      next h => subst h; rfl
      next => simp
    rw [h1]
    exact blk_cell hz o
  rw [e]
  match j, hj with
  | 0, _ => rfl
  | 1, _ => rfl
  | 2, _ => rfl
  | 3, _ => rfl
  | 4, _ => rfl
  | 5, _ => rfl
  | 6, _ => rfl
  | 7, _ => rfl
  | 8, _ => rfl
  | 9, _ => rfl
  | 10, _ => rfl
  | 11, _ => rfl
theorem C_of_blk12' {w : World} {g t : Nat} {b0 b1 b2 b3 b4 b5 b6 b7 b8 b9 b10 b11 : Int} (hz : w.heap[g]? = some (.cells #[.int .u8 b0, .int .u8 b1, .int .u8 b2, .int .u8 b3, .int .u8 b4, .int .u8 b5, .int .u8 b6, .int .u8 b7, .int .u8 b8, .int .u8 b9, .int .u8 b10, .int .u8 b11] t (0, 0))) : Kd.C (Kd.int .u8) w (some ⟨g, 0, none⟩) 12 [b0, b1, b2, b3, b4, b5, b6, b7, b8, b9, b10, b11] := C_of_blk12 hz
theorem rd2_yes (k : Nat) (A : Option Addr) (c : Nat) (l r o : List Int) (s : ByteArray) (w : World) (hV : ∀ w0, Below w.heap.size w w0 → Kd.V (Kd.int .u8) 5 w0 w0.heap.size (fun k_ => k_ < w.heap.size) (.slice A l.length c) l) (hf : bsoncore_ReadString.f k l = some (s, r, true)) (ho : impl_own.f r = some o) :
    Calls Tryz.prog 34 #[.int .i64 2, .slice A l.length c] w (YesPost w 2 s ⟨#[]⟩ 0 0 0 [] o) := by
  have B0 : ∀ o : Obj, Below w.heap.size w (w.alloc o) := fun o => below_alloc (Below.refl _ _) o
  go_enter Tryz.func34, Tryz.ntmps34
  go_wp2_with (first | (go_at_call 72; (refine (bsoncore_ReadString.calls k (fun k_ => k_ < w.heap.size) A c l s r true _ (hV _ (B0 _)) hf).mono ?_; rintro e w1 ⟨v1, rfl, hv1, hb1⟩; have hz1 := blk_below (blk_new w _) hb1; have hB1 := below_step (B0 _) hb1; replace hv1 : Kd.V (Kd.int .u8) 5 w1 _ (fun k_ => k_ < w.heap.size ∨ w.heap.size + (0 + 1) ≤ k_) v1 r := Kd.V_mono hv1 (fun k_ h => by simpa using h); obtain ⟨pz0, pz1, pz2, pz3, pz4, pz5, pz6, pz7, pf0, pf1, pf2, pf3, pf4, pf5, pf6, pf7⟩ := g8 hz1)))
  refine gen_ (α := Unit) (P := Code.wp _ _ _ _) (X := fun _ => True) (blk_put hz1 1 _ rfl) (below_set (j := 1) hB1 (Nat.le_refl _)) (vf hv1) trivial ?_
  rintro w4 hz4 hB4 hv4 hX
  obtain ⟨A1, c1, hv⟩ := Kd.V_slice hv4; subst hv; obtain ⟨_, hc4, hC4⟩ := Kd.V_reads' hv4; clear hv4 hz1 hB1 hv1 hb1 hV pz0 pz1 pz2 pz3 pz4 pz5 pz6 pz7 pf0 pf1 pf2 pf3 pf4 pf5 pf6 pf7; obtain ⟨yz0, yz1, yz2, yz3, yz4, yz5, yz6, yz7, yf0, yf1, yf2, yf3, yf4, yf5, yf6, yf7⟩ := g8 hz4
  go_region_with (go_at_call 53; refine (impl_own.calls A1 c1 r o _ (Kd.C_below hC4 (below_drew (Below.refl _ _))) hc4 ho).mono ?_; rintro e w6 ⟨v6, rfl, hR6, hb6⟩; have hz6 := blk_below (w := w4.drew) hz4 hb6; have hB6 := below_step (below_drew hB4) hb6; obtain ⟨A6, c6, hv⟩ := Kd.R_slice hR6; subst hv; clear yz0 yz1 yz2 yz3 yz4 yz5 yz6 yz7 yf0 yf1 yf2 yf3 yf4 yf5 yf6 yf7; obtain ⟨yz0, yz1, yz2, yz3, yz4, yz5, yz6, yz7, yf0, yf1, yf2, yf3, yf4, yf5, yf6, yf7⟩ := g8 hz6)
  all_goals
    go_wp2
    refine bodyPost_ret (results_ctt rfl _ _ w.heap.size 44 _ (0, 0) _ rfl (set8 hz6) Tryz.underlying44 rfl (by kernel_rfl)) rfl ?_
    have hlt : w.heap.size < w4.heap.size := blk_lt hz4
    exact ⟨_, _, rfl, Kd.R_nil _ _ _ _ _, Kd.R_mono (Kd.R_lower (set8_R (Kd.R_bound hR6) (fun k_ h => by have h5 : w4.heap.size ≤ k_ := h.2.1; omega)) (Nat.le_of_lt hlt)) (fun _ _ => by simp [Value.ownBlock]), set8_B hB6 (Nat.le_refl _)⟩
theorem rd3_yes (k : Nat) (A : Option Addr) (c : Nat) (l r o : List Int) (b : List Int) (o2 : List Int) (ho2 : impl_own.f b = some o2) (w : World) (hV : ∀ w0, Below w.heap.size w w0 → Kd.V (Kd.int .u8) 5 w0 w0.heap.size (fun k_ => k_ < w.heap.size) (.slice A l.length c) l) (hf : bsoncore_ReadDocument.f l = some (b, r, true)) (ho : impl_own.f r = some o) :
    Calls Tryz.prog 34 #[.int .i64 3, .slice A l.length c] w (YesPost w 3 ⟨#[]⟩ ⟨#[]⟩ 0 0 0 o2 o) := by
  have B0 : ∀ o : Obj, Below w.heap.size w (w.alloc o) := fun o => below_alloc (Below.refl _ _) o
  go_enter Tryz.func34, Tryz.ntmps34
  go_wp2_with (first | (go_at_call 73; (refine (bsoncore_ReadDocument.calls (fun k_ => k_ < w.heap.size) A c l b r true _ (hV _ (B0 _)) hf).mono ?_; rintro e w1 ⟨vb, v1, rfl, hvb, hv1, hb1⟩; have hz1 := blk_below (blk_new w _) hb1; have hB1 := below_step (B0 _) hb1; replace hv1 : Kd.V (Kd.int .u8) 5 w1 _ (fun k_ => k_ < w.heap.size ∨ w.heap.size + (0 + 1) ≤ k_) v1 r := Kd.V_mono hv1 (fun k_ h => by simpa using h); replace hvb : Kd.V (Kd.int .u8) 5 w1 _ (fun k_ => k_ < w.heap.size ∨ w.heap.size + (0 + 1) ≤ k_) vb b := Kd.V_mono hvb (fun k_ h => by simpa using h); obtain ⟨Ab, cb, hv⟩ := Kd.V_slice hvb; subst hv; obtain ⟨pz0, pz1, pz2, pz3, pz4, pz5, pz6, pz7, pf0, pf1, pf2, pf3, pf4, pf5, pf6, pf7⟩ := g8 hz1)) | (go_at_call 53; (refine (impl_own.calls Ab cb b o2 _ (Kd.V_reads' hvb).2.2 (Kd.V_reads' hvb).2.1 ho2).mono ?_; rintro e w3 ⟨v3, rfl, hR3, hb3⟩; obtain ⟨hz3, hs3⟩ := st_ hz1 hb3; have hB3 := below_step hB1 hb3; have hv3 := Kd.V_below hv1 hb3; obtain ⟨A3, c3, hv⟩ := Kd.R_slice hR3; subst hv; clear pz0 pz1 pz2 pz3 pz4 pz5 pz6 pz7 pf0 pf1 pf2 pf3 pf4 pf5 pf6 pf7; obtain ⟨pz0, pz1, pz2, pz3, pz4, pz5, pz6, pz7, pf0, pf1, pf2, pf3, pf4, pf5, pf6, pf7⟩ := g8 hz3)))
  refine gen_ (α := Unit) (P := Code.wp _ _ _ _) (X := fun W => Kd.R (Kd.int .u8) 5 W w.heap.size (fun k_ => k_ ≠ w.heap.size) (.slice A3 o2.length c3) o2) (blk_put hz3 6 _ rfl) (below_set (j := 6) hB3 (Nat.le_refl _)) (vf hv3) (Kd.R_far (p := ⟨w.heap.size, 6, none⟩) (Kd.R_mono (ok' := fun k_ => k_ ≠ w.heap.size) (Kd.R_lower (Kd.R_bound hR3) (Nat.le_of_lt hs3)) (fun k_ h => by have h5 := h.2.1; omega)) (fun k_ h => h) _) ?_
  rintro w4 hz4 hB4 hv4 hX
  obtain ⟨A1, c1, hv⟩ := Kd.V_slice hv4; subst hv; obtain ⟨_, hc4, hC4⟩ := Kd.V_reads' hv4; clear hv4 hz1 hB1 hv1 hb1 hV hz3 hB3 hv3 hb3 hR3 hs3 hvb pz0 pz1 pz2 pz3 pz4 pz5 pz6 pz7 pf0 pf1 pf2 pf3 pf4 pf5 pf6 pf7; obtain ⟨yz0, yz1, yz2, yz3, yz4, yz5, yz6, yz7, yf0, yf1, yf2, yf3, yf4, yf5, yf6, yf7⟩ := g8 hz4
  go_region_with (go_at_call 53; refine (impl_own.calls A1 c1 r o _ (Kd.C_below hC4 (below_drew (Below.refl _ _))) hc4 ho).mono ?_; rintro e w6 ⟨v6, rfl, hR6, hb6⟩; have hz6 := blk_below (w := w4.drew) hz4 hb6; have hB6 := below_step (below_drew hB4) hb6; obtain ⟨A6, c6, hv⟩ := Kd.R_slice hR6; subst hv; clear yz0 yz1 yz2 yz3 yz4 yz5 yz6 yz7 yf0 yf1 yf2 yf3 yf4 yf5 yf6 yf7; obtain ⟨yz0, yz1, yz2, yz3, yz4, yz5, yz6, yz7, yf0, yf1, yf2, yf3, yf4, yf5, yf6, yf7⟩ := g8 hz6)
  all_goals
    go_wp2
    refine bodyPost_ret (results_ctt rfl _ _ w.heap.size 44 _ (0, 0) _ rfl (set8 hz6) Tryz.underlying44 rfl (by kernel_rfl)) rfl ?_
    have hlt : w.heap.size < w4.heap.size := blk_lt hz4; have hR5 := Kd.R_below (w1 := w6) (Kd.R_bound hX) (below_step (below_drew (Below.refl _ _)) hb6)
    exact ⟨_, _, rfl, Kd.R_mono (set8_R hR5 (fun k_ h => h.1)) (fun k_ h e => by have h1 := Kd.R_base hR6 k_ e.symm; have h2 := h.2.2; have h3 : w4.heap.size ≤ k_ := h1; omega), Kd.R_mono (Kd.R_lower (set8_R (Kd.R_bound hR6) (fun k_ h => by have h5 : w4.heap.size ≤ k_ := h.2.1; omega)) (Nat.le_of_lt hlt)) (fun k_ h e => by have h1 := (Kd.R_bound hX).1 k_ e.symm; have h2 := h1.2.2; have h5 : w4.heap.size ≤ k_ := h.2.1; omega), set8_B hB6 (Nat.le_refl _)⟩
theorem rd4_yes (k : Nat) (A : Option Addr) (c : Nat) (l r o : List Int) (b : List Int) (o2 : List Int) (ho2 : impl_own.f b = some o2) (w : World) (hV : ∀ w0, Below w.heap.size w w0 → Kd.V (Kd.int .u8) 5 w0 w0.heap.size (fun k_ => k_ < w.heap.size) (.slice A l.length c) l) (hf : bsoncore_ReadArray.f l = some (b, r, true)) (ho : impl_own.f r = some o) :
    Calls Tryz.prog 34 #[.int .i64 4, .slice A l.length c] w (YesPost w 4 ⟨#[]⟩ ⟨#[]⟩ 0 0 0 o2 o) := by
  have B0 : ∀ o : Obj, Below w.heap.size w (w.alloc o) := fun o => below_alloc (Below.refl _ _) o
  go_enter Tryz.func34, Tryz.ntmps34
  go_wp2_with (first | (go_at_call 74; (refine (bsoncore_ReadArray.calls (fun k_ => k_ < w.heap.size) A c l b r true _ (hV _ (B0 _)) hf).mono ?_; rintro e w1 ⟨vb, v1, rfl, hvb, hv1, hb1⟩; have hz1 := blk_below (blk_new w _) hb1; have hB1 := below_step (B0 _) hb1; replace hv1 : Kd.V (Kd.int .u8) 5 w1 _ (fun k_ => k_ < w.heap.size ∨ w.heap.size + (0 + 1) ≤ k_) v1 r := Kd.V_mono hv1 (fun k_ h => by simpa using h); replace hvb : Kd.V (Kd.int .u8) 5 w1 _ (fun k_ => k_ < w.heap.size ∨ w.heap.size + (0 + 1) ≤ k_) vb b := Kd.V_mono hvb (fun k_ h => by simpa using h); obtain ⟨Ab, cb, hv⟩ := Kd.V_slice hvb; subst hv; obtain ⟨pz0, pz1, pz2, pz3, pz4, pz5, pz6, pz7, pf0, pf1, pf2, pf3, pf4, pf5, pf6, pf7⟩ := g8 hz1)) | (go_at_call 53; (refine (impl_own.calls Ab cb b o2 _ (Kd.V_reads' hvb).2.2 (Kd.V_reads' hvb).2.1 ho2).mono ?_; rintro e w3 ⟨v3, rfl, hR3, hb3⟩; obtain ⟨hz3, hs3⟩ := st_ hz1 hb3; have hB3 := below_step hB1 hb3; have hv3 := Kd.V_below hv1 hb3; obtain ⟨A3, c3, hv⟩ := Kd.R_slice hR3; subst hv; clear pz0 pz1 pz2 pz3 pz4 pz5 pz6 pz7 pf0 pf1 pf2 pf3 pf4 pf5 pf6 pf7; obtain ⟨pz0, pz1, pz2, pz3, pz4, pz5, pz6, pz7, pf0, pf1, pf2, pf3, pf4, pf5, pf6, pf7⟩ := g8 hz3)))
  refine gen_ (α := Unit) (P := Code.wp _ _ _ _) (X := fun W => Kd.R (Kd.int .u8) 5 W w.heap.size (fun k_ => k_ ≠ w.heap.size) (.slice A3 o2.length c3) o2) (blk_put hz3 6 _ rfl) (below_set (j := 6) hB3 (Nat.le_refl _)) (vf hv3) (Kd.R_far (p := ⟨w.heap.size, 6, none⟩) (Kd.R_mono (ok' := fun k_ => k_ ≠ w.heap.size) (Kd.R_lower (Kd.R_bound hR3) (Nat.le_of_lt hs3)) (fun k_ h => by have h5 := h.2.1; omega)) (fun k_ h => h) _) ?_
  rintro w4 hz4 hB4 hv4 hX
  obtain ⟨A1, c1, hv⟩ := Kd.V_slice hv4; subst hv; obtain ⟨_, hc4, hC4⟩ := Kd.V_reads' hv4; clear hv4 hz1 hB1 hv1 hb1 hV hz3 hB3 hv3 hb3 hR3 hs3 hvb pz0 pz1 pz2 pz3 pz4 pz5 pz6 pz7 pf0 pf1 pf2 pf3 pf4 pf5 pf6 pf7; obtain ⟨yz0, yz1, yz2, yz3, yz4, yz5, yz6, yz7, yf0, yf1, yf2, yf3, yf4, yf5, yf6, yf7⟩ := g8 hz4
  go_region_with (go_at_call 53; refine (impl_own.calls A1 c1 r o _ (Kd.C_below hC4 (below_drew (Below.refl _ _))) hc4 ho).mono ?_; rintro e w6 ⟨v6, rfl, hR6, hb6⟩; have hz6 := blk_below (w := w4.drew) hz4 hb6; have hB6 := below_step (below_drew hB4) hb6; obtain ⟨A6, c6, hv⟩ := Kd.R_slice hR6; subst hv; clear yz0 yz1 yz2 yz3 yz4 yz5 yz6 yz7 yf0 yf1 yf2 yf3 yf4 yf5 yf6 yf7; obtain ⟨yz0, yz1, yz2, yz3, yz4, yz5, yz6, yz7, yf0, yf1, yf2, yf3, yf4, yf5, yf6, yf7⟩ := g8 hz6)
  all_goals
    go_wp2
    refine bodyPost_ret (results_ctt rfl _ _ w.heap.size 44 _ (0, 0) _ rfl (set8 hz6) Tryz.underlying44 rfl (by kernel_rfl)) rfl ?_
    have hlt : w.heap.size < w4.heap.size := blk_lt hz4; have hR5 := Kd.R_below (w1 := w6) (Kd.R_bound hX) (below_step (below_drew (Below.refl _ _)) hb6)
    exact ⟨_, _, rfl, Kd.R_mono (set8_R hR5 (fun k_ h => h.1)) (fun k_ h e => by have h1 := Kd.R_base hR6 k_ e.symm; have h2 := h.2.2; have h3 : w4.heap.size ≤ k_ := h1; omega), Kd.R_mono (Kd.R_lower (set8_R (Kd.R_bound hR6) (fun k_ h => by have h5 : w4.heap.size ≤ k_ := h.2.1; omega)) (Nat.le_of_lt hlt)) (fun k_ h e => by have h1 := (Kd.R_bound hX).1 k_ e.symm; have h2 := h1.2.2; have h5 : w4.heap.size ≤ k_ := h.2.1; omega), set8_B hB6 (Nat.le_refl _)⟩
theorem rd5_yes (k : Nat) (A : Option Addr) (c : Nat) (l r o : List Int) (t : Int) (b : List Int) (o2 : List Int) (ho2 : impl_own.f b = some o2) (w : World) (hV : ∀ w0, Below w.heap.size w w0 → Kd.V (Kd.int .u8) 5 w0 w0.heap.size (fun k_ => k_ < w.heap.size) (.slice A l.length c) l) (hf : bsoncore_ReadBinary.f k l = some (t, b, r, true)) (ho : impl_own.f r = some o) :
    Calls Tryz.prog 34 #[.int .i64 5, .slice A l.length c] w (YesPost w 5 ⟨#[]⟩ ⟨#[]⟩ (wrap64 t) 0 0 o2 o) := by
  have B0 : ∀ o : Obj, Below w.heap.size w (w.alloc o) := fun o => below_alloc (Below.refl _ _) o
  go_enter Tryz.func34, Tryz.ntmps34
  go_wp2_with (first | (go_at_call 75; (refine (bsoncore_ReadBinary.calls k (fun k_ => k_ < w.heap.size) A c l t b r true _ (hV _ (B0 _)) hf).mono ?_; rintro e w1 ⟨vb, v1, rfl, hvb, hv1, hb1⟩; have hz1 := blk_below (blk_new w _) hb1; have hB1 := below_step (B0 _) hb1; replace hv1 : Kd.V (Kd.int .u8) 5 w1 _ (fun k_ => k_ < w.heap.size ∨ w.heap.size + (0 + 1) ≤ k_) v1 r := Kd.V_mono hv1 (fun k_ h => by simpa using h); replace hvb : Kd.V (Kd.int .u8) 5 w1 _ (fun k_ => k_ < w.heap.size ∨ w.heap.size + (0 + 1) ≤ k_) vb b := Kd.V_mono hvb (fun k_ h => by simpa using h); obtain ⟨Ab, cb, hv⟩ := Kd.V_slice hvb; subst hv; obtain ⟨pz0, pz1, pz2, pz3, pz4, pz5, pz6, pz7, pf0, pf1, pf2, pf3, pf4, pf5, pf6, pf7⟩ := g8 hz1)) | (go_at_call 53; (refine (impl_own.calls Ab cb b o2 _ (Kd.V_reads' (vf hvb)).2.2 (Kd.V_reads' hvb).2.1 ho2).mono ?_; rintro e w3 ⟨v3, rfl, hR3, hb3⟩; obtain ⟨hz3, hs3⟩ := st_ (blk_put hz1 6 _ rfl) hb3; have hB3 := below_step (below_set (j := 6) hB1 (Nat.le_refl _)) hb3; have hv3 := Kd.V_below (vf hv1) hb3; obtain ⟨A3, c3, hv⟩ := Kd.R_slice hR3; subst hv; clear pz0 pz1 pz2 pz3 pz4 pz5 pz6 pz7 pf0 pf1 pf2 pf3 pf4 pf5 pf6 pf7; obtain ⟨pz0, pz1, pz2, pz3, pz4, pz5, pz6, pz7, pf0, pf1, pf2, pf3, pf4, pf5, pf6, pf7⟩ := g8 hz3)))
  refine gen_ (α := Unit) (P := Code.wp _ _ _ _) (X := fun W => Kd.R (Kd.int .u8) 5 W w.heap.size (fun k_ => k_ ≠ w.heap.size) (.slice A3 o2.length c3) o2) (blk_put (blk_put hz3 3 _ rfl) 6 _ rfl) (below_set (j := 6) (below_set (j := 3) hB3 (Nat.le_refl _)) (Nat.le_refl _)) (vf (vf hv3)) (Kd.R_far (p := ⟨w.heap.size, 6, none⟩) (Kd.R_far (p := ⟨w.heap.size, 3, none⟩) (Kd.R_mono (ok' := fun k_ => k_ ≠ w.heap.size) (Kd.R_lower (Kd.R_bound hR3) (Nat.le_of_lt hs3)) (fun k_ h => by have h5 := h.2.1; omega)) (fun k_ h => h) _) (fun k_ h => h) _) ?_
  rintro w4 hz4 hB4 hv4 hX
  obtain ⟨A1, c1, hv⟩ := Kd.V_slice hv4; subst hv; obtain ⟨_, hc4, hC4⟩ := Kd.V_reads' hv4; clear hv4 hz1 hB1 hv1 hb1 hV hz3 hB3 hv3 hb3 hR3 hs3 hvb pz0 pz1 pz2 pz3 pz4 pz5 pz6 pz7 pf0 pf1 pf2 pf3 pf4 pf5 pf6 pf7; obtain ⟨yz0, yz1, yz2, yz3, yz4, yz5, yz6, yz7, yf0, yf1, yf2, yf3, yf4, yf5, yf6, yf7⟩ := g8 hz4
  go_region_with (go_at_call 53; refine (impl_own.calls A1 c1 r o _ (Kd.C_below hC4 (below_drew (Below.refl _ _))) hc4 ho).mono ?_; rintro e w6 ⟨v6, rfl, hR6, hb6⟩; have hz6 := blk_below (w := w4.drew) hz4 hb6; have hB6 := below_step (below_drew hB4) hb6; obtain ⟨A6, c6, hv⟩ := Kd.R_slice hR6; subst hv; clear yz0 yz1 yz2 yz3 yz4 yz5 yz6 yz7 yf0 yf1 yf2 yf3 yf4 yf5 yf6 yf7; obtain ⟨yz0, yz1, yz2, yz3, yz4, yz5, yz6, yz7, yf0, yf1, yf2, yf3, yf4, yf5, yf6, yf7⟩ := g8 hz6)
  all_goals
    go_wp2
    refine bodyPost_ret (results_ctt rfl _ _ w.heap.size 44 _ (0, 0) _ rfl (set8 hz6) Tryz.underlying44 rfl (by kernel_rfl)) rfl ?_
    have hlt : w.heap.size < w4.heap.size := blk_lt hz4; have hR5 := Kd.R_below (w1 := w6) (Kd.R_bound hX) (below_step (below_drew (Below.refl _ _)) hb6)
    exact ⟨_, _, rfl, Kd.R_mono (set8_R hR5 (fun k_ h => h.1)) (fun k_ h e => by have h1 := Kd.R_base hR6 k_ e.symm; have h2 := h.2.2; have h3 : w4.heap.size ≤ k_ := h1; omega), Kd.R_mono (Kd.R_lower (set8_R (Kd.R_bound hR6) (fun k_ h => by have h5 : w4.heap.size ≤ k_ := h.2.1; omega)) (Nat.le_of_lt hlt)) (fun k_ h e => by have h1 := (Kd.R_bound hX).1 k_ e.symm; have h2 := h1.2.2; have h5 : w4.heap.size ≤ k_ := h.2.1; omega), set8_B hB6 (Nat.le_refl _)⟩
theorem rd8_yes (k : Nat) (A : Option Addr) (c : Nat) (l r o : List Int) (q : Bool) (n : Int) (hq : impl_one.f q = some n) (w : World) (hV : ∀ w0, Below w.heap.size w w0 → Kd.V (Kd.int .u8) 5 w0 w0.heap.size (fun k_ => k_ < w.heap.size) (.slice A l.length c) l) (hf : bsoncore_ReadBoolean.f l = some (q, r, true)) (ho : impl_own.f r = some o) :
    Calls Tryz.prog 34 #[.int .i64 8, .slice A l.length c] w (YesPost w 8 ⟨#[]⟩ ⟨#[]⟩ n 0 0 [] o) := by
  have B0 : ∀ o : Obj, Below w.heap.size w (w.alloc o) := fun o => below_alloc (Below.refl _ _) o
  go_enter Tryz.func34, Tryz.ntmps34
  go_wp2_with (first | (go_at_call 77; (refine (bsoncore_ReadBoolean.calls (fun k_ => k_ < w.heap.size) A c l q r true _ (hV _ (B0 _)) hf).mono ?_; rintro e w1 ⟨v1, rfl, hv1, hb1⟩; have hz1 := blk_below (blk_new w _) hb1; have hB1 := below_step (B0 _) hb1; replace hv1 : Kd.V (Kd.int .u8) 5 w1 _ (fun k_ => k_ < w.heap.size ∨ w.heap.size + (0 + 1) ≤ k_) v1 r := Kd.V_mono hv1 (fun k_ h => by simpa using h); obtain ⟨pz0, pz1, pz2, pz3, pz4, pz5, pz6, pz7, pf0, pf1, pf2, pf3, pf4, pf5, pf6, pf7⟩ := g8 hz1)) | (go_at_call 78; (refine (impl_one.calls q n _ hq).mono ?_; rintro e w3 ⟨rfl, hD3⟩; have hb3 := hD3.below; have hz3 := blk_below hz1 hb3; have hB3 := below_step hB1 hb3; have hv3 := Kd.V_below hv1 hb3; clear pz0 pz1 pz2 pz3 pz4 pz5 pz6 pz7 pf0 pf1 pf2 pf3 pf4 pf5 pf6 pf7; obtain ⟨pz0, pz1, pz2, pz3, pz4, pz5, pz6, pz7, pf0, pf1, pf2, pf3, pf4, pf5, pf6, pf7⟩ := g8 hz3)))
  refine gen_ (α := Unit) (P := Code.wp _ _ _ _) (X := fun _ => True) (blk_put hz3 3 _ rfl) (below_set (j := 3) hB3 (Nat.le_refl _)) (vf hv3) trivial ?_
  rintro w4 hz4 hB4 hv4 hX
  obtain ⟨A1, c1, hv⟩ := Kd.V_slice hv4; subst hv; obtain ⟨_, hc4, hC4⟩ := Kd.V_reads' hv4; clear hv4 hz1 hB1 hv1 hb1 hV hz3 hB3 hv3 hb3 hD3 pz0 pz1 pz2 pz3 pz4 pz5 pz6 pz7 pf0 pf1 pf2 pf3 pf4 pf5 pf6 pf7; obtain ⟨yz0, yz1, yz2, yz3, yz4, yz5, yz6, yz7, yf0, yf1, yf2, yf3, yf4, yf5, yf6, yf7⟩ := g8 hz4
  go_region_with (go_at_call 53; refine (impl_own.calls A1 c1 r o _ (Kd.C_below hC4 (below_drew (Below.refl _ _))) hc4 ho).mono ?_; rintro e w6 ⟨v6, rfl, hR6, hb6⟩; have hz6 := blk_below (w := w4.drew) hz4 hb6; have hB6 := below_step (below_drew hB4) hb6; obtain ⟨A6, c6, hv⟩ := Kd.R_slice hR6; subst hv; clear yz0 yz1 yz2 yz3 yz4 yz5 yz6 yz7 yf0 yf1 yf2 yf3 yf4 yf5 yf6 yf7; obtain ⟨yz0, yz1, yz2, yz3, yz4, yz5, yz6, yz7, yf0, yf1, yf2, yf3, yf4, yf5, yf6, yf7⟩ := g8 hz6)
  all_goals
    go_wp2
    refine bodyPost_ret (results_ctt rfl _ _ w.heap.size 44 _ (0, 0) _ rfl (set8 hz6) Tryz.underlying44 rfl (by kernel_rfl)) rfl ?_
    have hlt : w.heap.size < w4.heap.size := blk_lt hz4
    exact ⟨_, _, rfl, Kd.R_nil _ _ _ _ _, Kd.R_mono (Kd.R_lower (set8_R (Kd.R_bound hR6) (fun k_ h => by have h5 : w4.heap.size ≤ k_ := h.2.1; omega)) (Nat.le_of_lt hlt)) (fun _ _ => by simp [Value.ownBlock]), set8_B hB6 (Nat.le_refl _)⟩
theorem rd9_yes (k : Nat) (A : Option Addr) (c : Nat) (l r o : List Int) (n : Int) (w : World) (hV : ∀ w0, Below w.heap.size w w0 → Kd.V (Kd.int .u8) 5 w0 w0.heap.size (fun k_ => k_ < w.heap.size) (.slice A l.length c) l) (hf : bsoncore_ReadDateTime.f l = some (n, r, true)) (ho : impl_own.f r = some o) :
    Calls Tryz.prog 34 #[.int .i64 9, .slice A l.length c] w (YesPost w 9 ⟨#[]⟩ ⟨#[]⟩ n 0 0 [] o) := by
  have B0 : ∀ o : Obj, Below w.heap.size w (w.alloc o) := fun o => below_alloc (Below.refl _ _) o
  go_enter Tryz.func34, Tryz.ntmps34
  go_wp2_with (first | (go_at_call 79; (refine (bsoncore_ReadDateTime.calls (fun k_ => k_ < w.heap.size) A c l n r true _ (hV _ (B0 _)) hf).mono ?_; rintro e w1 ⟨v1, rfl, hv1, hb1⟩; have hz1 := blk_below (blk_new w _) hb1; have hB1 := below_step (B0 _) hb1; replace hv1 : Kd.V (Kd.int .u8) 5 w1 _ (fun k_ => k_ < w.heap.size ∨ w.heap.size + (0 + 1) ≤ k_) v1 r := Kd.V_mono hv1 (fun k_ h => by simpa using h); obtain ⟨pz0, pz1, pz2, pz3, pz4, pz5, pz6, pz7, pf0, pf1, pf2, pf3, pf4, pf5, pf6, pf7⟩ := g8 hz1)))
  refine gen_ (α := Unit) (P := Code.wp _ _ _ _) (X := fun _ => True) (blk_put hz1 3 _ rfl) (below_set (j := 3) hB1 (Nat.le_refl _)) (vf hv1) trivial ?_
  rintro w4 hz4 hB4 hv4 hX
  obtain ⟨A1, c1, hv⟩ := Kd.V_slice hv4; subst hv; obtain ⟨_, hc4, hC4⟩ := Kd.V_reads' hv4; clear hv4 hz1 hB1 hv1 hb1 hV pz0 pz1 pz2 pz3 pz4 pz5 pz6 pz7 pf0 pf1 pf2 pf3 pf4 pf5 pf6 pf7; obtain ⟨yz0, yz1, yz2, yz3, yz4, yz5, yz6, yz7, yf0, yf1, yf2, yf3, yf4, yf5, yf6, yf7⟩ := g8 hz4
  go_region_with (go_at_call 53; refine (impl_own.calls A1 c1 r o _ (Kd.C_below hC4 (below_drew (Below.refl _ _))) hc4 ho).mono ?_; rintro e w6 ⟨v6, rfl, hR6, hb6⟩; have hz6 := blk_below (w := w4.drew) hz4 hb6; have hB6 := below_step (below_drew hB4) hb6; obtain ⟨A6, c6, hv⟩ := Kd.R_slice hR6; subst hv; clear yz0 yz1 yz2 yz3 yz4 yz5 yz6 yz7 yf0 yf1 yf2 yf3 yf4 yf5 yf6 yf7; obtain ⟨yz0, yz1, yz2, yz3, yz4, yz5, yz6, yz7, yf0, yf1, yf2, yf3, yf4, yf5, yf6, yf7⟩ := g8 hz6)
  all_goals
    go_wp2
    refine bodyPost_ret (results_ctt rfl _ _ w.heap.size 44 _ (0, 0) _ rfl (set8 hz6) Tryz.underlying44 rfl (by kernel_rfl)) rfl ?_
    have hlt : w.heap.size < w4.heap.size := blk_lt hz4
    exact ⟨_, _, rfl, Kd.R_nil _ _ _ _ _, Kd.R_mono (Kd.R_lower (set8_R (Kd.R_bound hR6) (fun k_ h => by have h5 : w4.heap.size ≤ k_ := h.2.1; omega)) (Nat.le_of_lt hlt)) (fun _ _ => by simp [Value.ownBlock]), set8_B hB6 (Nat.le_refl _)⟩
theorem rd11_yes (k : Nat) (A : Option Addr) (c : Nat) (l r o : List Int) (s : ByteArray) (s2 : ByteArray) (w : World) (hV : ∀ w0, Below w.heap.size w w0 → Kd.V (Kd.int .u8) 5 w0 w0.heap.size (fun k_ => k_ < w.heap.size) (.slice A l.length c) l) (hf : bsoncore_ReadRegex.f l = some (s, s2, r, true)) (ho : impl_own.f r = some o) :
    Calls Tryz.prog 34 #[.int .i64 11, .slice A l.length c] w (YesPost w 11 s s2 0 0 0 [] o) := by
  have B0 : ∀ o : Obj, Below w.heap.size w (w.alloc o) := fun o => below_alloc (Below.refl _ _) o
  go_enter Tryz.func34, Tryz.ntmps34
  go_wp2_with (first | (go_at_call 80; (refine (bsoncore_ReadRegex.calls (fun k_ => k_ < w.heap.size) A c l s s2 r true _ (hV _ (B0 _)) hf).mono ?_; rintro e w1 ⟨v1, rfl, hv1, hb1⟩; have hz1 := blk_below (blk_new w _) hb1; have hB1 := below_step (B0 _) hb1; replace hv1 : Kd.V (Kd.int .u8) 5 w1 _ (fun k_ => k_ < w.heap.size ∨ w.heap.size + (0 + 1) ≤ k_) v1 r := Kd.V_mono hv1 (fun k_ h => by simpa using h); obtain ⟨pz0, pz1, pz2, pz3, pz4, pz5, pz6, pz7, pf0, pf1, pf2, pf3, pf4, pf5, pf6, pf7⟩ := g8 hz1)))
  refine gen_ (α := Unit) (P := Code.wp _ _ _ _) (X := fun _ => True) (blk_put (blk_put hz1 1 _ rfl) 2 _ rfl) (below_set (j := 2) (below_set (j := 1) hB1 (Nat.le_refl _)) (Nat.le_refl _)) (vf (vf hv1)) trivial ?_
  rintro w4 hz4 hB4 hv4 hX
  obtain ⟨A1, c1, hv⟩ := Kd.V_slice hv4; subst hv; obtain ⟨_, hc4, hC4⟩ := Kd.V_reads' hv4; clear hv4 hz1 hB1 hv1 hb1 hV pz0 pz1 pz2 pz3 pz4 pz5 pz6 pz7 pf0 pf1 pf2 pf3 pf4 pf5 pf6 pf7; obtain ⟨yz0, yz1, yz2, yz3, yz4, yz5, yz6, yz7, yf0, yf1, yf2, yf3, yf4, yf5, yf6, yf7⟩ := g8 hz4
  go_region_with (go_at_call 53; refine (impl_own.calls A1 c1 r o _ (Kd.C_below hC4 (below_drew (Below.refl _ _))) hc4 ho).mono ?_; rintro e w6 ⟨v6, rfl, hR6, hb6⟩; have hz6 := blk_below (w := w4.drew) hz4 hb6; have hB6 := below_step (below_drew hB4) hb6; obtain ⟨A6, c6, hv⟩ := Kd.R_slice hR6; subst hv; clear yz0 yz1 yz2 yz3 yz4 yz5 yz6 yz7 yf0 yf1 yf2 yf3 yf4 yf5 yf6 yf7; obtain ⟨yz0, yz1, yz2, yz3, yz4, yz5, yz6, yz7, yf0, yf1, yf2, yf3, yf4, yf5, yf6, yf7⟩ := g8 hz6)
  all_goals
    go_wp2
    refine bodyPost_ret (results_ctt rfl _ _ w.heap.size 44 _ (0, 0) _ rfl (set8 hz6) Tryz.underlying44 rfl (by kernel_rfl)) rfl ?_
    have hlt : w.heap.size < w4.heap.size := blk_lt hz4
    exact ⟨_, _, rfl, Kd.R_nil _ _ _ _ _, Kd.R_mono (Kd.R_lower (set8_R (Kd.R_bound hR6) (fun k_ h => by have h5 : w4.heap.size ≤ k_ := h.2.1; omega)) (Nat.le_of_lt hlt)) (fun _ _ => by simp [Value.ownBlock]), set8_B hB6 (Nat.le_refl _)⟩
theorem rd13_yes (k : Nat) (A : Option Addr) (c : Nat) (l r o : List Int) (s : ByteArray) (w : World) (hV : ∀ w0, Below w.heap.size w w0 → Kd.V (Kd.int .u8) 5 w0 w0.heap.size (fun k_ => k_ < w.heap.size) (.slice A l.length c) l) (hf : bsoncore_ReadJavaScript.f k l = some (s, r, true)) (ho : impl_own.f r = some o) :
    Calls Tryz.prog 34 #[.int .i64 13, .slice A l.length c] w (YesPost w 13 s ⟨#[]⟩ 0 0 0 [] o) := by
  have B0 : ∀ o : Obj, Below w.heap.size w (w.alloc o) := fun o => below_alloc (Below.refl _ _) o
  go_enter Tryz.func34, Tryz.ntmps34
  go_wp2_with (first | (go_at_call 82; (refine (bsoncore_ReadJavaScript.calls k (fun k_ => k_ < w.heap.size) A c l s r true _ (hV _ (B0 _)) hf).mono ?_; rintro e w1 ⟨v1, rfl, hv1, hb1⟩; have hz1 := blk_below (blk_new w _) hb1; have hB1 := below_step (B0 _) hb1; replace hv1 : Kd.V (Kd.int .u8) 5 w1 _ (fun k_ => k_ < w.heap.size ∨ w.heap.size + (0 + 1) ≤ k_) v1 r := Kd.V_mono hv1 (fun k_ h => by simpa using h); obtain ⟨pz0, pz1, pz2, pz3, pz4, pz5, pz6, pz7, pf0, pf1, pf2, pf3, pf4, pf5, pf6, pf7⟩ := g8 hz1)))
  refine gen_ (α := Unit) (P := Code.wp _ _ _ _) (X := fun _ => True) (blk_put hz1 1 _ rfl) (below_set (j := 1) hB1 (Nat.le_refl _)) (vf hv1) trivial ?_
  rintro w4 hz4 hB4 hv4 hX
  obtain ⟨A1, c1, hv⟩ := Kd.V_slice hv4; subst hv; obtain ⟨_, hc4, hC4⟩ := Kd.V_reads' hv4; clear hv4 hz1 hB1 hv1 hb1 hV pz0 pz1 pz2 pz3 pz4 pz5 pz6 pz7 pf0 pf1 pf2 pf3 pf4 pf5 pf6 pf7; obtain ⟨yz0, yz1, yz2, yz3, yz4, yz5, yz6, yz7, yf0, yf1, yf2, yf3, yf4, yf5, yf6, yf7⟩ := g8 hz4
  go_region_with (go_at_call 53; refine (impl_own.calls A1 c1 r o _ (Kd.C_below hC4 (below_drew (Below.refl _ _))) hc4 ho).mono ?_; rintro e w6 ⟨v6, rfl, hR6, hb6⟩; have hz6 := blk_below (w := w4.drew) hz4 hb6; have hB6 := below_step (below_drew hB4) hb6; obtain ⟨A6, c6, hv⟩ := Kd.R_slice hR6; subst hv; clear yz0 yz1 yz2 yz3 yz4 yz5 yz6 yz7 yf0 yf1 yf2 yf3 yf4 yf5 yf6 yf7; obtain ⟨yz0, yz1, yz2, yz3, yz4, yz5, yz6, yz7, yf0, yf1, yf2, yf3, yf4, yf5, yf6, yf7⟩ := g8 hz6)
  all_goals
    go_wp2
    refine bodyPost_ret (results_ctt rfl _ _ w.heap.size 44 _ (0, 0) _ rfl (set8 hz6) Tryz.underlying44 rfl (by kernel_rfl)) rfl ?_
    have hlt : w.heap.size < w4.heap.size := blk_lt hz4
    exact ⟨_, _, rfl, Kd.R_nil _ _ _ _ _, Kd.R_mono (Kd.R_lower (set8_R (Kd.R_bound hR6) (fun k_ h => by have h5 : w4.heap.size ≤ k_ := h.2.1; omega)) (Nat.le_of_lt hlt)) (fun _ _ => by simp [Value.ownBlock]), set8_B hB6 (Nat.le_refl _)⟩
theorem rd14_yes (k : Nat) (A : Option Addr) (c : Nat) (l r o : List Int) (s : ByteArray) (w : World) (hV : ∀ w0, Below w.heap.size w w0 → Kd.V (Kd.int .u8) 5 w0 w0.heap.size (fun k_ => k_ < w.heap.size) (.slice A l.length c) l) (hf : bsoncore_ReadSymbol.f k l = some (s, r, true)) (ho : impl_own.f r = some o) :
    Calls Tryz.prog 34 #[.int .i64 14, .slice A l.length c] w (YesPost w 14 s ⟨#[]⟩ 0 0 0 [] o) := by
  have B0 : ∀ o : Obj, Below w.heap.size w (w.alloc o) := fun o => below_alloc (Below.refl _ _) o
  go_enter Tryz.func34, Tryz.ntmps34
  go_wp2_with (first | (go_at_call 83; (refine (bsoncore_ReadSymbol.calls k (fun k_ => k_ < w.heap.size) A c l s r true _ (hV _ (B0 _)) hf).mono ?_; rintro e w1 ⟨v1, rfl, hv1, hb1⟩; have hz1 := blk_below (blk_new w _) hb1; have hB1 := below_step (B0 _) hb1; replace hv1 : Kd.V (Kd.int .u8) 5 w1 _ (fun k_ => k_ < w.heap.size ∨ w.heap.size + (0 + 1) ≤ k_) v1 r := Kd.V_mono hv1 (fun k_ h => by simpa using h); obtain ⟨pz0, pz1, pz2, pz3, pz4, pz5, pz6, pz7, pf0, pf1, pf2, pf3, pf4, pf5, pf6, pf7⟩ := g8 hz1)))
  refine gen_ (α := Unit) (P := Code.wp _ _ _ _) (X := fun _ => True) (blk_put hz1 1 _ rfl) (below_set (j := 1) hB1 (Nat.le_refl _)) (vf hv1) trivial ?_
  rintro w4 hz4 hB4 hv4 hX
  obtain ⟨A1, c1, hv⟩ := Kd.V_slice hv4; subst hv; obtain ⟨_, hc4, hC4⟩ := Kd.V_reads' hv4; clear hv4 hz1 hB1 hv1 hb1 hV pz0 pz1 pz2 pz3 pz4 pz5 pz6 pz7 pf0 pf1 pf2 pf3 pf4 pf5 pf6 pf7; obtain ⟨yz0, yz1, yz2, yz3, yz4, yz5, yz6, yz7, yf0, yf1, yf2, yf3, yf4, yf5, yf6, yf7⟩ := g8 hz4
  go_region_with (go_at_call 53; refine (impl_own.calls A1 c1 r o _ (Kd.C_below hC4 (below_drew (Below.refl _ _))) hc4 ho).mono ?_; rintro e w6 ⟨v6, rfl, hR6, hb6⟩; have hz6 := blk_below (w := w4.drew) hz4 hb6; have hB6 := below_step (below_drew hB4) hb6; obtain ⟨A6, c6, hv⟩ := Kd.R_slice hR6; subst hv; clear yz0 yz1 yz2 yz3 yz4 yz5 yz6 yz7 yf0 yf1 yf2 yf3 yf4 yf5 yf6 yf7; obtain ⟨yz0, yz1, yz2, yz3, yz4, yz5, yz6, yz7, yf0, yf1, yf2, yf3, yf4, yf5, yf6, yf7⟩ := g8 hz6)
  all_goals
    go_wp2
    refine bodyPost_ret (results_ctt rfl _ _ w.heap.size 44 _ (0, 0) _ rfl (set8 hz6) Tryz.underlying44 rfl (by kernel_rfl)) rfl ?_
    have hlt : w.heap.size < w4.heap.size := blk_lt hz4
    exact ⟨_, _, rfl, Kd.R_nil _ _ _ _ _, Kd.R_mono (Kd.R_lower (set8_R (Kd.R_bound hR6) (fun k_ h => by have h5 : w4.heap.size ≤ k_ := h.2.1; omega)) (Nat.le_of_lt hlt)) (fun _ _ => by simp [Value.ownBlock]), set8_B hB6 (Nat.le_refl _)⟩
theorem rd15_yes (k : Nat) (A : Option Addr) (c : Nat) (l r o : List Int) (s : ByteArray) (b : List Int) (o2 : List Int) (ho2 : impl_own.f b = some o2) (w : World) (hV : ∀ w0, Below w.heap.size w w0 → Kd.V (Kd.int .u8) 5 w0 w0.heap.size (fun k_ => k_ < w.heap.size) (.slice A l.length c) l) (hf : bsoncore_ReadCodeWithScope.f k l = some (s, b, r, true)) (ho : impl_own.f r = some o) :
    Calls Tryz.prog 34 #[.int .i64 15, .slice A l.length c] w (YesPost w 15 s ⟨#[]⟩ 0 0 0 o2 o) := by
  have B0 : ∀ o : Obj, Below w.heap.size w (w.alloc o) := fun o => below_alloc (Below.refl _ _) o
  go_enter Tryz.func34, Tryz.ntmps34
  go_wp2_with (first | (go_at_call 84; (refine (bsoncore_ReadCodeWithScope.calls k (fun k_ => k_ < w.heap.size) A c l s b r true _ (hV _ (B0 _)) hf).mono ?_; rintro e w1 ⟨vb, v1, rfl, hvb, hv1, hb1⟩; have hz1 := blk_below (blk_new w _) hb1; have hB1 := below_step (B0 _) hb1; replace hv1 : Kd.V (Kd.int .u8) 5 w1 _ (fun k_ => k_ < w.heap.size ∨ w.heap.size + (0 + 1) ≤ k_) v1 r := Kd.V_mono hv1 (fun k_ h => by simpa using h); replace hvb : Kd.V (Kd.int .u8) 5 w1 _ (fun k_ => k_ < w.heap.size ∨ w.heap.size + (0 + 1) ≤ k_) vb b := Kd.V_mono hvb (fun k_ h => by simpa using h); obtain ⟨Ab, cb, hv⟩ := Kd.V_slice hvb; subst hv; obtain ⟨pz0, pz1, pz2, pz3, pz4, pz5, pz6, pz7, pf0, pf1, pf2, pf3, pf4, pf5, pf6, pf7⟩ := g8 hz1)) | (go_at_call 53; (refine (impl_own.calls Ab cb b o2 _ (Kd.V_reads' (vf (vf hvb))).2.2 (Kd.V_reads' hvb).2.1 ho2).mono ?_; rintro e w3 ⟨v3, rfl, hR3, hb3⟩; obtain ⟨hz3, hs3⟩ := st_ (blk_put (blk_put hz1 1 _ rfl) 6 _ rfl) hb3; have hB3 := below_step (below_set (j := 6) (below_set (j := 1) hB1 (Nat.le_refl _)) (Nat.le_refl _)) hb3; have hv3 := Kd.V_below (vf (vf hv1)) hb3; obtain ⟨A3, c3, hv⟩ := Kd.R_slice hR3; subst hv; clear pz0 pz1 pz2 pz3 pz4 pz5 pz6 pz7 pf0 pf1 pf2 pf3 pf4 pf5 pf6 pf7; obtain ⟨pz0, pz1, pz2, pz3, pz4, pz5, pz6, pz7, pf0, pf1, pf2, pf3, pf4, pf5, pf6, pf7⟩ := g8 hz3)))
  refine gen_ (α := Unit) (P := Code.wp _ _ _ _) (X := fun W => Kd.R (Kd.int .u8) 5 W w.heap.size (fun k_ => k_ ≠ w.heap.size) (.slice A3 o2.length c3) o2) (blk_put hz3 6 _ rfl) (below_set (j := 6) hB3 (Nat.le_refl _)) (vf hv3) (Kd.R_far (p := ⟨w.heap.size, 6, none⟩) (Kd.R_mono (ok' := fun k_ => k_ ≠ w.heap.size) (Kd.R_lower (Kd.R_bound hR3) (Nat.le_of_lt hs3)) (fun k_ h => by have h5 := h.2.1; omega)) (fun k_ h => h) _) ?_
  rintro w4 hz4 hB4 hv4 hX
  obtain ⟨A1, c1, hv⟩ := Kd.V_slice hv4; subst hv; obtain ⟨_, hc4, hC4⟩ := Kd.V_reads' hv4; clear hv4 hz1 hB1 hv1 hb1 hV hz3 hB3 hv3 hb3 hR3 hs3 hvb pz0 pz1 pz2 pz3 pz4 pz5 pz6 pz7 pf0 pf1 pf2 pf3 pf4 pf5 pf6 pf7; obtain ⟨yz0, yz1, yz2, yz3, yz4, yz5, yz6, yz7, yf0, yf1, yf2, yf3, yf4, yf5, yf6, yf7⟩ := g8 hz4
  go_region_with (go_at_call 53; refine (impl_own.calls A1 c1 r o _ (Kd.C_below hC4 (below_drew (Below.refl _ _))) hc4 ho).mono ?_; rintro e w6 ⟨v6, rfl, hR6, hb6⟩; have hz6 := blk_below (w := w4.drew) hz4 hb6; have hB6 := below_step (below_drew hB4) hb6; obtain ⟨A6, c6, hv⟩ := Kd.R_slice hR6; subst hv; clear yz0 yz1 yz2 yz3 yz4 yz5 yz6 yz7 yf0 yf1 yf2 yf3 yf4 yf5 yf6 yf7; obtain ⟨yz0, yz1, yz2, yz3, yz4, yz5, yz6, yz7, yf0, yf1, yf2, yf3, yf4, yf5, yf6, yf7⟩ := g8 hz6)
  all_goals
    go_wp2
    refine bodyPost_ret (results_ctt rfl _ _ w.heap.size 44 _ (0, 0) _ rfl (set8 hz6) Tryz.underlying44 rfl (by kernel_rfl)) rfl ?_
    have hlt : w.heap.size < w4.heap.size := blk_lt hz4; have hR5 := Kd.R_below (w1 := w6) (Kd.R_bound hX) (below_step (below_drew (Below.refl _ _)) hb6)
    exact ⟨_, _, rfl, Kd.R_mono (set8_R hR5 (fun k_ h => h.1)) (fun k_ h e => by have h1 := Kd.R_base hR6 k_ e.symm; have h2 := h.2.2; have h3 : w4.heap.size ≤ k_ := h1; omega), Kd.R_mono (Kd.R_lower (set8_R (Kd.R_bound hR6) (fun k_ h => by have h5 : w4.heap.size ≤ k_ := h.2.1; omega)) (Nat.le_of_lt hlt)) (fun k_ h e => by have h1 := (Kd.R_bound hX).1 k_ e.symm; have h2 := h1.2.2; have h5 : w4.heap.size ≤ k_ := h.2.1; omega), set8_B hB6 (Nat.le_refl _)⟩
theorem rd16_yes (k : Nat) (A : Option Addr) (c : Nat) (l r o : List Int) (n : Int) (w : World) (hV : ∀ w0, Below w.heap.size w w0 → Kd.V (Kd.int .u8) 5 w0 w0.heap.size (fun k_ => k_ < w.heap.size) (.slice A l.length c) l) (hf : bsoncore_ReadInt32.f l = some (n, r, true)) (ho : impl_own.f r = some o) :
    Calls Tryz.prog 34 #[.int .i64 16, .slice A l.length c] w (YesPost w 16 ⟨#[]⟩ ⟨#[]⟩ (wrap64 n) 0 0 [] o) := by
  have B0 : ∀ o : Obj, Below w.heap.size w (w.alloc o) := fun o => below_alloc (Below.refl _ _) o
  go_enter Tryz.func34, Tryz.ntmps34
  go_wp2_with (first | (go_at_call 85; (refine (bsoncore_ReadInt32.calls (fun k_ => k_ < w.heap.size) A c l n r true _ (hV _ (B0 _)) hf).mono ?_; rintro e w1 ⟨v1, rfl, hv1, hb1⟩; have hz1 := blk_below (blk_new w _) hb1; have hB1 := below_step (B0 _) hb1; replace hv1 : Kd.V (Kd.int .u8) 5 w1 _ (fun k_ => k_ < w.heap.size ∨ w.heap.size + (0 + 1) ≤ k_) v1 r := Kd.V_mono hv1 (fun k_ h => by simpa using h); obtain ⟨pz0, pz1, pz2, pz3, pz4, pz5, pz6, pz7, pf0, pf1, pf2, pf3, pf4, pf5, pf6, pf7⟩ := g8 hz1)))
  refine gen_ (α := Unit) (P := Code.wp _ _ _ _) (X := fun _ => True) (blk_put hz1 3 _ rfl) (below_set (j := 3) hB1 (Nat.le_refl _)) (vf hv1) trivial ?_
  rintro w4 hz4 hB4 hv4 hX
  obtain ⟨A1, c1, hv⟩ := Kd.V_slice hv4; subst hv; obtain ⟨_, hc4, hC4⟩ := Kd.V_reads' hv4; clear hv4 hz1 hB1 hv1 hb1 hV pz0 pz1 pz2 pz3 pz4 pz5 pz6 pz7 pf0 pf1 pf2 pf3 pf4 pf5 pf6 pf7; obtain ⟨yz0, yz1, yz2, yz3, yz4, yz5, yz6, yz7, yf0, yf1, yf2, yf3, yf4, yf5, yf6, yf7⟩ := g8 hz4
  go_region_with (go_at_call 53; refine (impl_own.calls A1 c1 r o _ (Kd.C_below hC4 (below_drew (Below.refl _ _))) hc4 ho).mono ?_; rintro e w6 ⟨v6, rfl, hR6, hb6⟩; have hz6 := blk_below (w := w4.drew) hz4 hb6; have hB6 := below_step (below_drew hB4) hb6; obtain ⟨A6, c6, hv⟩ := Kd.R_slice hR6; subst hv; clear yz0 yz1 yz2 yz3 yz4 yz5 yz6 yz7 yf0 yf1 yf2 yf3 yf4 yf5 yf6 yf7; obtain ⟨yz0, yz1, yz2, yz3, yz4, yz5, yz6, yz7, yf0, yf1, yf2, yf3, yf4, yf5, yf6, yf7⟩ := g8 hz6)
  all_goals
    go_wp2
    refine bodyPost_ret (results_ctt rfl _ _ w.heap.size 44 _ (0, 0) _ rfl (set8 hz6) Tryz.underlying44 rfl (by kernel_rfl)) rfl ?_
    have hlt : w.heap.size < w4.heap.size := blk_lt hz4
    exact ⟨_, _, rfl, Kd.R_nil _ _ _ _ _, Kd.R_mono (Kd.R_lower (set8_R (Kd.R_bound hR6) (fun k_ h => by have h5 : w4.heap.size ≤ k_ := h.2.1; omega)) (Nat.le_of_lt hlt)) (fun _ _ => by simp [Value.ownBlock]), set8_B hB6 (Nat.le_refl _)⟩
theorem rd17_yes (k : Nat) (A : Option Addr) (c : Nat) (l r o : List Int) (n : Int) (n2 : Int) (w : World) (hV : ∀ w0, Below w.heap.size w w0 → Kd.V (Kd.int .u8) 5 w0 w0.heap.size (fun k_ => k_ < w.heap.size) (.slice A l.length c) l) (hf : bsoncore_ReadTimestamp.f l = some (n, n2, r, true)) (ho : impl_own.f r = some o) :
    Calls Tryz.prog 34 #[.int .i64 17, .slice A l.length c] w (YesPost w 17 ⟨#[]⟩ ⟨#[]⟩ 0 (Go.bits .or .u64 (IntKind.u64.wrap ((IntKind.u64.wrap n) * 4294967296)) (IntKind.u64.wrap n2)) 0 [] o) := by
  have B0 : ∀ o : Obj, Below w.heap.size w (w.alloc o) := fun o => below_alloc (Below.refl _ _) o
  go_enter Tryz.func34, Tryz.ntmps34
  go_wp2_with (first | (go_at_call 86; (refine (bsoncore_ReadTimestamp.calls (fun k_ => k_ < w.heap.size) A c l n n2 r true _ (hV _ (B0 _)) hf).mono ?_; rintro e w1 ⟨v1, rfl, hv1, hb1⟩; have hz1 := blk_below (blk_new w _) hb1; have hB1 := below_step (B0 _) hb1; replace hv1 : Kd.V (Kd.int .u8) 5 w1 _ (fun k_ => k_ < w.heap.size ∨ w.heap.size + (0 + 1) ≤ k_) v1 r := Kd.V_mono hv1 (fun k_ h => by simpa using h); obtain ⟨pz0, pz1, pz2, pz3, pz4, pz5, pz6, pz7, pf0, pf1, pf2, pf3, pf4, pf5, pf6, pf7⟩ := g8 hz1)))
  refine gen_ (α := Unit) (P := Code.wp _ _ _ _) (X := fun _ => True) (blk_put hz1 4 _ rfl) (below_set (j := 4) hB1 (Nat.le_refl _)) (vf hv1) trivial ?_
  rintro w4 hz4 hB4 hv4 hX
  obtain ⟨A1, c1, hv⟩ := Kd.V_slice hv4; subst hv; obtain ⟨_, hc4, hC4⟩ := Kd.V_reads' hv4; clear hv4 hz1 hB1 hv1 hb1 hV pz0 pz1 pz2 pz3 pz4 pz5 pz6 pz7 pf0 pf1 pf2 pf3 pf4 pf5 pf6 pf7; obtain ⟨yz0, yz1, yz2, yz3, yz4, yz5, yz6, yz7, yf0, yf1, yf2, yf3, yf4, yf5, yf6, yf7⟩ := g8 hz4
  go_region_with (go_at_call 53; refine (impl_own.calls A1 c1 r o _ (Kd.C_below hC4 (below_drew (Below.refl _ _))) hc4 ho).mono ?_; rintro e w6 ⟨v6, rfl, hR6, hb6⟩; have hz6 := blk_below (w := w4.drew) hz4 hb6; have hB6 := below_step (below_drew hB4) hb6; obtain ⟨A6, c6, hv⟩ := Kd.R_slice hR6; subst hv; clear yz0 yz1 yz2 yz3 yz4 yz5 yz6 yz7 yf0 yf1 yf2 yf3 yf4 yf5 yf6 yf7; obtain ⟨yz0, yz1, yz2, yz3, yz4, yz5, yz6, yz7, yf0, yf1, yf2, yf3, yf4, yf5, yf6, yf7⟩ := g8 hz6)
  all_goals
    go_wp2
    refine bodyPost_ret (results_ctt rfl _ _ w.heap.size 44 _ (0, 0) _ rfl (set8 hz6) Tryz.underlying44 rfl (by kernel_rfl)) rfl ?_
    have hlt : w.heap.size < w4.heap.size := blk_lt hz4
    exact ⟨_, _, rfl, Kd.R_nil _ _ _ _ _, Kd.R_mono (Kd.R_lower (set8_R (Kd.R_bound hR6) (fun k_ h => by have h5 : w4.heap.size ≤ k_ := h.2.1; omega)) (Nat.le_of_lt hlt)) (fun _ _ => by simp [Value.ownBlock]), set8_B hB6 (Nat.le_refl _)⟩
theorem rd18_yes (k : Nat) (A : Option Addr) (c : Nat) (l r o : List Int) (n : Int) (w : World) (hV : ∀ w0, Below w.heap.size w w0 → Kd.V (Kd.int .u8) 5 w0 w0.heap.size (fun k_ => k_ < w.heap.size) (.slice A l.length c) l) (hf : bsoncore_ReadInt64.f l = some (n, r, true)) (ho : impl_own.f r = some o) :
    Calls Tryz.prog 34 #[.int .i64 18, .slice A l.length c] w (YesPost w 18 ⟨#[]⟩ ⟨#[]⟩ n 0 0 [] o) := by
  have B0 : ∀ o : Obj, Below w.heap.size w (w.alloc o) := fun o => below_alloc (Below.refl _ _) o
  go_enter Tryz.func34, Tryz.ntmps34
  go_wp2_with (first | (go_at_call 87; (refine (bsoncore_ReadInt64.calls (fun k_ => k_ < w.heap.size) A c l n r true _ (hV _ (B0 _)) hf).mono ?_; rintro e w1 ⟨v1, rfl, hv1, hb1⟩; have hz1 := blk_below (blk_new w _) hb1; have hB1 := below_step (B0 _) hb1; replace hv1 : Kd.V (Kd.int .u8) 5 w1 _ (fun k_ => k_ < w.heap.size ∨ w.heap.size + (0 + 1) ≤ k_) v1 r := Kd.V_mono hv1 (fun k_ h => by simpa using h); obtain ⟨pz0, pz1, pz2, pz3, pz4, pz5, pz6, pz7, pf0, pf1, pf2, pf3, pf4, pf5, pf6, pf7⟩ := g8 hz1)))
  refine gen_ (α := Unit) (P := Code.wp _ _ _ _) (X := fun _ => True) (blk_put hz1 3 _ rfl) (below_set (j := 3) hB1 (Nat.le_refl _)) (vf hv1) trivial ?_
  rintro w4 hz4 hB4 hv4 hX
  obtain ⟨A1, c1, hv⟩ := Kd.V_slice hv4; subst hv; obtain ⟨_, hc4, hC4⟩ := Kd.V_reads' hv4; clear hv4 hz1 hB1 hv1 hb1 hV pz0 pz1 pz2 pz3 pz4 pz5 pz6 pz7 pf0 pf1 pf2 pf3 pf4 pf5 pf6 pf7; obtain ⟨yz0, yz1, yz2, yz3, yz4, yz5, yz6, yz7, yf0, yf1, yf2, yf3, yf4, yf5, yf6, yf7⟩ := g8 hz4
  go_region_with (go_at_call 53; refine (impl_own.calls A1 c1 r o _ (Kd.C_below hC4 (below_drew (Below.refl _ _))) hc4 ho).mono ?_; rintro e w6 ⟨v6, rfl, hR6, hb6⟩; have hz6 := blk_below (w := w4.drew) hz4 hb6; have hB6 := below_step (below_drew hB4) hb6; obtain ⟨A6, c6, hv⟩ := Kd.R_slice hR6; subst hv; clear yz0 yz1 yz2 yz3 yz4 yz5 yz6 yz7 yf0 yf1 yf2 yf3 yf4 yf5 yf6 yf7; obtain ⟨yz0, yz1, yz2, yz3, yz4, yz5, yz6, yz7, yf0, yf1, yf2, yf3, yf4, yf5, yf6, yf7⟩ := g8 hz6)
  all_goals
    go_wp2
    refine bodyPost_ret (results_ctt rfl _ _ w.heap.size 44 _ (0, 0) _ rfl (set8 hz6) Tryz.underlying44 rfl (by kernel_rfl)) rfl ?_
    have hlt : w.heap.size < w4.heap.size := blk_lt hz4
    exact ⟨_, _, rfl, Kd.R_nil _ _ _ _ _, Kd.R_mono (Kd.R_lower (set8_R (Kd.R_bound hR6) (fun k_ h => by have h5 : w4.heap.size ≤ k_ := h.2.1; omega)) (Nat.le_of_lt hlt)) (fun _ _ => by simp [Value.ownBlock]), set8_B hB6 (Nat.le_refl _)⟩
theorem rd19_yes (k : Nat) (A : Option Addr) (c : Nat) (l r o : List Int) (n : Int) (n2 : Int) (w : World) (hV : ∀ w0, Below w.heap.size w w0 → Kd.V (Kd.int .u8) 5 w0 w0.heap.size (fun k_ => k_ < w.heap.size) (.slice A l.length c) l) (hf : bsoncore_ReadDecimal128.f l = some (n, n2, r, true)) (ho : impl_own.f r = some o) :
    Calls Tryz.prog 34 #[.int .i64 19, .slice A l.length c] w (YesPost w 19 ⟨#[]⟩ ⟨#[]⟩ 0 n2 n [] o) := by
  have B0 : ∀ o : Obj, Below w.heap.size w (w.alloc o) := fun o => below_alloc (Below.refl _ _) o
  go_enter Tryz.func34, Tryz.ntmps34
  go_wp2_with (first | (go_at_call 88; (refine (bsoncore_ReadDecimal128.calls (fun k_ => k_ < w.heap.size) A c l n n2 r true _ (hV _ (B0 _)) hf).mono ?_; rintro e w1 ⟨v1, rfl, hv1, hb1⟩; have hz1 := blk_below (blk_new w _) hb1; have hB1 := below_step (B0 _) hb1; replace hv1 : Kd.V (Kd.int .u8) 5 w1 _ (fun k_ => k_ < w.heap.size ∨ w.heap.size + (0 + 1) ≤ k_) v1 r := Kd.V_mono hv1 (fun k_ h => by simpa using h); obtain ⟨pz0, pz1, pz2, pz3, pz4, pz5, pz6, pz7, pf0, pf1, pf2, pf3, pf4, pf5, pf6, pf7⟩ := g8 hz1)))
  refine gen_ (α := Unit) (P := Code.wp _ _ _ _) (X := fun _ => True) (blk_put (blk_put hz1 5 _ rfl) 4 _ rfl) (below_set (j := 4) (below_set (j := 5) hB1 (Nat.le_refl _)) (Nat.le_refl _)) (vf (vf hv1)) trivial ?_
  rintro w4 hz4 hB4 hv4 hX
  obtain ⟨A1, c1, hv⟩ := Kd.V_slice hv4; subst hv; obtain ⟨_, hc4, hC4⟩ := Kd.V_reads' hv4; clear hv4 hz1 hB1 hv1 hb1 hV pz0 pz1 pz2 pz3 pz4 pz5 pz6 pz7 pf0 pf1 pf2 pf3 pf4 pf5 pf6 pf7; obtain ⟨yz0, yz1, yz2, yz3, yz4, yz5, yz6, yz7, yf0, yf1, yf2, yf3, yf4, yf5, yf6, yf7⟩ := g8 hz4
  go_region_with (go_at_call 53; refine (impl_own.calls A1 c1 r o _ (Kd.C_below hC4 (below_drew (Below.refl _ _))) hc4 ho).mono ?_; rintro e w6 ⟨v6, rfl, hR6, hb6⟩; have hz6 := blk_below (w := w4.drew) hz4 hb6; have hB6 := below_step (below_drew hB4) hb6; obtain ⟨A6, c6, hv⟩ := Kd.R_slice hR6; subst hv; clear yz0 yz1 yz2 yz3 yz4 yz5 yz6 yz7 yf0 yf1 yf2 yf3 yf4 yf5 yf6 yf7; obtain ⟨yz0, yz1, yz2, yz3, yz4, yz5, yz6, yz7, yf0, yf1, yf2, yf3, yf4, yf5, yf6, yf7⟩ := g8 hz6)
  all_goals
    go_wp2
    refine bodyPost_ret (results_ctt rfl _ _ w.heap.size 44 _ (0, 0) _ rfl (set8 hz6) Tryz.underlying44 rfl (by kernel_rfl)) rfl ?_
    have hlt : w.heap.size < w4.heap.size := blk_lt hz4
    exact ⟨_, _, rfl, Kd.R_nil _ _ _ _ _, Kd.R_mono (Kd.R_lower (set8_R (Kd.R_bound hR6) (fun k_ h => by have h5 : w4.heap.size ≤ k_ := h.2.1; omega)) (Nat.le_of_lt hlt)) (fun _ _ => by simp [Value.ownBlock]), set8_B hB6 (Nat.le_refl _)⟩
theorem rd6_yes (k : Nat) (A : Option Addr) (c : Nat) (l r o : List Int) (t : Int) (b : List Int) (w : World) (hV : ∀ w0, Below w.heap.size w w0 → Kd.V (Kd.int .u8) 5 w0 w0.heap.size (fun k_ => k_ < w.heap.size) (.slice A l.length c) l) (hf : bsoncore_ReadValue.f k l 6 = some (t, b, r, true)) (ho : impl_own.f r = some o) :
    Calls Tryz.prog 34 #[.int .i64 6, .slice A l.length c] w (YesPost w 6 ⟨#[]⟩ ⟨#[]⟩ 0 0 0 [] o) := by
  have B0 : ∀ o : Obj, Below w.heap.size w (w.alloc o) := fun o => below_alloc (Below.refl _ _) o
  go_enter Tryz.func34, Tryz.ntmps34
  go_wp2_with (first | (go_at_call 89; (refine (bsoncore_ReadValue.calls k (fun k_ => k_ < w.heap.size) A c l 6 t b r true _ (hV _ (B0 _)) hf).mono ?_; rintro e w1 ⟨vb, v1, rfl, hvb, hv1, hb1⟩; have hz1 := blk_below (blk_new w _) hb1; have hB1 := below_step (B0 _) hb1; replace hv1 : Kd.V (Kd.int .u8) 5 w1 _ (fun k_ => k_ < w.heap.size ∨ w.heap.size + (0 + 1) ≤ k_) v1 r := Kd.V_mono hv1 (fun k_ h => by simpa using h); obtain ⟨pz0, pz1, pz2, pz3, pz4, pz5, pz6, pz7, pf0, pf1, pf2, pf3, pf4, pf5, pf6, pf7⟩ := g8 hz1)))
  refine gen_ (α := Unit) (P := Code.wp _ _ _ _) (X := fun _ => True) hz1 hB1 hv1 trivial ?_
  rintro w4 hz4 hB4 hv4 hX
  obtain ⟨A1, c1, hv⟩ := Kd.V_slice hv4; subst hv; obtain ⟨_, hc4, hC4⟩ := Kd.V_reads' hv4; clear hv4 hz1 hB1 hv1 hb1 hV hvb pz0 pz1 pz2 pz3 pz4 pz5 pz6 pz7 pf0 pf1 pf2 pf3 pf4 pf5 pf6 pf7; obtain ⟨yz0, yz1, yz2, yz3, yz4, yz5, yz6, yz7, yf0, yf1, yf2, yf3, yf4, yf5, yf6, yf7⟩ := g8 hz4
  go_region_with (go_at_call 53; refine (impl_own.calls A1 c1 r o _ (Kd.C_below hC4 (below_drew (Below.refl _ _))) hc4 ho).mono ?_; rintro e w6 ⟨v6, rfl, hR6, hb6⟩; have hz6 := blk_below (w := w4.drew) hz4 hb6; have hB6 := below_step (below_drew hB4) hb6; obtain ⟨A6, c6, hv⟩ := Kd.R_slice hR6; subst hv; clear yz0 yz1 yz2 yz3 yz4 yz5 yz6 yz7 yf0 yf1 yf2 yf3 yf4 yf5 yf6 yf7; obtain ⟨yz0, yz1, yz2, yz3, yz4, yz5, yz6, yz7, yf0, yf1, yf2, yf3, yf4, yf5, yf6, yf7⟩ := g8 hz6)
  all_goals
    go_wp2
    refine bodyPost_ret (results_ctt rfl _ _ w.heap.size 44 _ (0, 0) _ rfl (set8 hz6) Tryz.underlying44 rfl (by kernel_rfl)) rfl ?_
    have hlt : w.heap.size < w4.heap.size := blk_lt hz4
    exact ⟨_, _, rfl, Kd.R_nil _ _ _ _ _, Kd.R_mono (Kd.R_lower (set8_R (Kd.R_bound hR6) (fun k_ h => by have h5 : w4.heap.size ≤ k_ := h.2.1; omega)) (Nat.le_of_lt hlt)) (fun _ _ => by simp [Value.ownBlock]), set8_B hB6 (Nat.le_refl _)⟩
theorem rd10_yes (k : Nat) (A : Option Addr) (c : Nat) (l r o : List Int) (t : Int) (b : List Int) (w : World) (hV : ∀ w0, Below w.heap.size w w0 → Kd.V (Kd.int .u8) 5 w0 w0.heap.size (fun k_ => k_ < w.heap.size) (.slice A l.length c) l) (hf : bsoncore_ReadValue.f k l 10 = some (t, b, r, true)) (ho : impl_own.f r = some o) :
    Calls Tryz.prog 34 #[.int .i64 10, .slice A l.length c] w (YesPost w 10 ⟨#[]⟩ ⟨#[]⟩ 0 0 0 [] o) := by
  have B0 : ∀ o : Obj, Below w.heap.size w (w.alloc o) := fun o => below_alloc (Below.refl _ _) o
  go_enter Tryz.func34, Tryz.ntmps34
  go_wp2_with (first | (go_at_call 89; (refine (bsoncore_ReadValue.calls k (fun k_ => k_ < w.heap.size) A c l 10 t b r true _ (hV _ (B0 _)) hf).mono ?_; rintro e w1 ⟨vb, v1, rfl, hvb, hv1, hb1⟩; have hz1 := blk_below (blk_new w _) hb1; have hB1 := below_step (B0 _) hb1; replace hv1 : Kd.V (Kd.int .u8) 5 w1 _ (fun k_ => k_ < w.heap.size ∨ w.heap.size + (0 + 1) ≤ k_) v1 r := Kd.V_mono hv1 (fun k_ h => by simpa using h); obtain ⟨pz0, pz1, pz2, pz3, pz4, pz5, pz6, pz7, pf0, pf1, pf2, pf3, pf4, pf5, pf6, pf7⟩ := g8 hz1)))
  refine gen_ (α := Unit) (P := Code.wp _ _ _ _) (X := fun _ => True) hz1 hB1 hv1 trivial ?_
  rintro w4 hz4 hB4 hv4 hX
  obtain ⟨A1, c1, hv⟩ := Kd.V_slice hv4; subst hv; obtain ⟨_, hc4, hC4⟩ := Kd.V_reads' hv4; clear hv4 hz1 hB1 hv1 hb1 hV hvb pz0 pz1 pz2 pz3 pz4 pz5 pz6 pz7 pf0 pf1 pf2 pf3 pf4 pf5 pf6 pf7; obtain ⟨yz0, yz1, yz2, yz3, yz4, yz5, yz6, yz7, yf0, yf1, yf2, yf3, yf4, yf5, yf6, yf7⟩ := g8 hz4
  go_region_with (go_at_call 53; refine (impl_own.calls A1 c1 r o _ (Kd.C_below hC4 (below_drew (Below.refl _ _))) hc4 ho).mono ?_; rintro e w6 ⟨v6, rfl, hR6, hb6⟩; have hz6 := blk_below (w := w4.drew) hz4 hb6; have hB6 := below_step (below_drew hB4) hb6; obtain ⟨A6, c6, hv⟩ := Kd.R_slice hR6; subst hv; clear yz0 yz1 yz2 yz3 yz4 yz5 yz6 yz7 yf0 yf1 yf2 yf3 yf4 yf5 yf6 yf7; obtain ⟨yz0, yz1, yz2, yz3, yz4, yz5, yz6, yz7, yf0, yf1, yf2, yf3, yf4, yf5, yf6, yf7⟩ := g8 hz6)
  all_goals
    go_wp2
    refine bodyPost_ret (results_ctt rfl _ _ w.heap.size 44 _ (0, 0) _ rfl (set8 hz6) Tryz.underlying44 rfl (by kernel_rfl)) rfl ?_
    have hlt : w.heap.size < w4.heap.size := blk_lt hz4
    exact ⟨_, _, rfl, Kd.R_nil _ _ _ _ _, Kd.R_mono (Kd.R_lower (set8_R (Kd.R_bound hR6) (fun k_ h => by have h5 : w4.heap.size ≤ k_ := h.2.1; omega)) (Nat.le_of_lt hlt)) (fun _ _ => by simp [Value.ownBlock]), set8_B hB6 (Nat.le_refl _)⟩
theorem rd127_yes (k : Nat) (A : Option Addr) (c : Nat) (l r o : List Int) (t : Int) (b : List Int) (w : World) (hV : ∀ w0, Below w.heap.size w w0 → Kd.V (Kd.int .u8) 5 w0 w0.heap.size (fun k_ => k_ < w.heap.size) (.slice A l.length c) l) (hf : bsoncore_ReadValue.f k l 127 = some (t, b, r, true)) (ho : impl_own.f r = some o) :
    Calls Tryz.prog 34 #[.int .i64 127, .slice A l.length c] w (YesPost w 127 ⟨#[]⟩ ⟨#[]⟩ 0 0 0 [] o) := by
  have B0 : ∀ o : Obj, Below w.heap.size w (w.alloc o) := fun o => below_alloc (Below.refl _ _) o
  go_enter Tryz.func34, Tryz.ntmps34
  go_wp2_with (first | (go_at_call 89; (refine (bsoncore_ReadValue.calls k (fun k_ => k_ < w.heap.size) A c l 127 t b r true _ (hV _ (B0 _)) hf).mono ?_; rintro e w1 ⟨vb, v1, rfl, hvb, hv1, hb1⟩; have hz1 := blk_below (blk_new w _) hb1; have hB1 := below_step (B0 _) hb1; replace hv1 : Kd.V (Kd.int .u8) 5 w1 _ (fun k_ => k_ < w.heap.size ∨ w.heap.size + (0 + 1) ≤ k_) v1 r := Kd.V_mono hv1 (fun k_ h => by simpa using h); obtain ⟨pz0, pz1, pz2, pz3, pz4, pz5, pz6, pz7, pf0, pf1, pf2, pf3, pf4, pf5, pf6, pf7⟩ := g8 hz1)))
  refine gen_ (α := Unit) (P := Code.wp _ _ _ _) (X := fun _ => True) hz1 hB1 hv1 trivial ?_
  rintro w4 hz4 hB4 hv4 hX
  obtain ⟨A1, c1, hv⟩ := Kd.V_slice hv4; subst hv; obtain ⟨_, hc4, hC4⟩ := Kd.V_reads' hv4; clear hv4 hz1 hB1 hv1 hb1 hV hvb pz0 pz1 pz2 pz3 pz4 pz5 pz6 pz7 pf0 pf1 pf2 pf3 pf4 pf5 pf6 pf7; obtain ⟨yz0, yz1, yz2, yz3, yz4, yz5, yz6, yz7, yf0, yf1, yf2, yf3, yf4, yf5, yf6, yf7⟩ := g8 hz4
  go_region_with (go_at_call 53; refine (impl_own.calls A1 c1 r o _ (Kd.C_below hC4 (below_drew (Below.refl _ _))) hc4 ho).mono ?_; rintro e w6 ⟨v6, rfl, hR6, hb6⟩; have hz6 := blk_below (w := w4.drew) hz4 hb6; have hB6 := below_step (below_drew hB4) hb6; obtain ⟨A6, c6, hv⟩ := Kd.R_slice hR6; subst hv; clear yz0 yz1 yz2 yz3 yz4 yz5 yz6 yz7 yf0 yf1 yf2 yf3 yf4 yf5 yf6 yf7; obtain ⟨yz0, yz1, yz2, yz3, yz4, yz5, yz6, yz7, yf0, yf1, yf2, yf3, yf4, yf5, yf6, yf7⟩ := g8 hz6)
  all_goals
    go_wp2
    refine bodyPost_ret (results_ctt rfl _ _ w.heap.size 44 _ (0, 0) _ rfl (set8 hz6) Tryz.underlying44 rfl (by kernel_rfl)) rfl ?_
    have hlt : w.heap.size < w4.heap.size := blk_lt hz4
    exact ⟨_, _, rfl, Kd.R_nil _ _ _ _ _, Kd.R_mono (Kd.R_lower (set8_R (Kd.R_bound hR6) (fun k_ h => by have h5 : w4.heap.size ≤ k_ := h.2.1; omega)) (Nat.le_of_lt hlt)) (fun _ _ => by simp [Value.ownBlock]), set8_B hB6 (Nat.le_refl _)⟩
theorem rd255_yes (k : Nat) (A : Option Addr) (c : Nat) (l r o : List Int) (t : Int) (b : List Int) (w : World) (hV : ∀ w0, Below w.heap.size w w0 → Kd.V (Kd.int .u8) 5 w0 w0.heap.size (fun k_ => k_ < w.heap.size) (.slice A l.length c) l) (hf : bsoncore_ReadValue.f k l 255 = some (t, b, r, true)) (ho : impl_own.f r = some o) :
    Calls Tryz.prog 34 #[.int .i64 255, .slice A l.length c] w (YesPost w 255 ⟨#[]⟩ ⟨#[]⟩ 0 0 0 [] o) := by
  have B0 : ∀ o : Obj, Below w.heap.size w (w.alloc o) := fun o => below_alloc (Below.refl _ _) o
  go_enter Tryz.func34, Tryz.ntmps34
  go_wp2_with (first | (go_at_call 89; (refine (bsoncore_ReadValue.calls k (fun k_ => k_ < w.heap.size) A c l 255 t b r true _ (hV _ (B0 _)) hf).mono ?_; rintro e w1 ⟨vb, v1, rfl, hvb, hv1, hb1⟩; have hz1 := blk_below (blk_new w _) hb1; have hB1 := below_step (B0 _) hb1; replace hv1 : Kd.V (Kd.int .u8) 5 w1 _ (fun k_ => k_ < w.heap.size ∨ w.heap.size + (0 + 1) ≤ k_) v1 r := Kd.V_mono hv1 (fun k_ h => by simpa using h); obtain ⟨pz0, pz1, pz2, pz3, pz4, pz5, pz6, pz7, pf0, pf1, pf2, pf3, pf4, pf5, pf6, pf7⟩ := g8 hz1)))
  refine gen_ (α := Unit) (P := Code.wp _ _ _ _) (X := fun _ => True) hz1 hB1 hv1 trivial ?_
  rintro w4 hz4 hB4 hv4 hX
  obtain ⟨A1, c1, hv⟩ := Kd.V_slice hv4; subst hv; obtain ⟨_, hc4, hC4⟩ := Kd.V_reads' hv4; clear hv4 hz1 hB1 hv1 hb1 hV hvb pz0 pz1 pz2 pz3 pz4 pz5 pz6 pz7 pf0 pf1 pf2 pf3 pf4 pf5 pf6 pf7; obtain ⟨yz0, yz1, yz2, yz3, yz4, yz5, yz6, yz7, yf0, yf1, yf2, yf3, yf4, yf5, yf6, yf7⟩ := g8 hz4
  go_region_with (go_at_call 53; refine (impl_own.calls A1 c1 r o _ (Kd.C_below hC4 (below_drew (Below.refl _ _))) hc4 ho).mono ?_; rintro e w6 ⟨v6, rfl, hR6, hb6⟩; have hz6 := blk_below (w := w4.drew) hz4 hb6; have hB6 := below_step (below_drew hB4) hb6; obtain ⟨A6, c6, hv⟩ := Kd.R_slice hR6; subst hv; clear yz0 yz1 yz2 yz3 yz4 yz5 yz6 yz7 yf0 yf1 yf2 yf3 yf4 yf5 yf6 yf7; obtain ⟨yz0, yz1, yz2, yz3, yz4, yz5, yz6, yz7, yf0, yf1, yf2, yf3, yf4, yf5, yf6, yf7⟩ := g8 hz6)
  all_goals
    go_wp2
    refine bodyPost_ret (results_ctt rfl _ _ w.heap.size 44 _ (0, 0) _ rfl (set8 hz6) Tryz.underlying44 rfl (by kernel_rfl)) rfl ?_
    have hlt : w.heap.size < w4.heap.size := blk_lt hz4
    exact ⟨_, _, rfl, Kd.R_nil _ _ _ _ _, Kd.R_mono (Kd.R_lower (set8_R (Kd.R_bound hR6) (fun k_ h => by have h5 : w4.heap.size ≤ k_ := h.2.1; omega)) (Nat.le_of_lt hlt)) (fun _ _ => by simp [Value.ownBlock]), set8_B hB6 (Nat.le_refl _)⟩
theorem rdouble (A : Option Addr) (c : Nat) (l r : List Int) (n : Nat) (P : Nat → Prop) (w : World) (hV : Kd.V (Kd.int .u8) 5 w w.heap.size P (.slice A l.length c) l) (hf : binaryutil_ReadU64.f l = some ((n : Int), r, true)) :
    Calls Tryz.prog 71 #[.slice A l.length c] w fun e w' => ∃ v, e = .returned (.tuple #[.float .f64 n, v, .bool true]) ∧ Kd.V (Kd.int .u8) 5 w' w.heap.size (fun k_ => P k_ ∨ w.heap.size ≤ k_) v r ∧ Below w.heap.size w w' := by
  have hfb := frombits_run
  go_enter Tryz.func71, Tryz.ntmps71
  go_wp2_with (go_at_call 110; refine (binaryutil_ReadU64.calls P A c l (n : Int) r true _ hV hf).mono ?_; rintro e w' ⟨v, rfl, hv, hb⟩)
  try go_wp2
  go_ret3
  exact ⟨v, rfl, hv, hb⟩
theorem rd1 (A : Option Addr) (c : Nat) (l r o : List Int) (n : Nat) (w : World) (hV : ∀ w0, Below w.heap.size w w0 → Kd.V (Kd.int .u8) 5 w0 w0.heap.size (fun k_ => k_ < w.heap.size) (.slice A l.length c) l) (hf : binaryutil_ReadU64.f l = some ((n : Int), r, true)) (ho : impl_own.f r = some o) :
    Calls Tryz.prog 34 #[.int .i64 1, .slice A l.length c] w (YesPost w 1 ⟨#[]⟩ ⟨#[]⟩ 0 (n : Int) 0 [] o) := by
  have B0 : ∀ o : Obj, Below w.heap.size w (w.alloc o) := fun o => below_alloc (Below.refl _ _) o; have hfb := fun n w => bits_run n w
  go_enter Tryz.func34, Tryz.ntmps34
  go_wp2_with (go_at_call 71; (refine (rdouble A c l r n (fun k_ => k_ < w.heap.size) _ (hV _ (B0 _)) hf).mono ?_; rintro e w1 ⟨v1, rfl, hv1, hb1⟩; have hz1 := blk_below (blk_new w _) hb1; have hB1 := below_step (B0 _) hb1; replace hv1 : Kd.V (Kd.int .u8) 5 w1 _ (fun k_ => k_ < w.heap.size ∨ w.heap.size + (0 + 1) ≤ k_) v1 r := Kd.V_mono hv1 (fun k_ h => by simpa using h); obtain ⟨pz0, pz1, pz2, pz3, pz4, pz5, pz6, pz7, pf0, pf1, pf2, pf3, pf4, pf5, pf6, pf7⟩ := g8 hz1))
  refine gen_ (α := Unit) (P := Code.wp _ _ _ _) (X := fun _ => True) (blk_put hz1 4 _ rfl) (below_set (j := 4) hB1 (Nat.le_refl _)) (vf hv1) trivial ?_
  rintro w4 hz4 hB4 hv4 hX
  obtain ⟨A1, c1, hv⟩ := Kd.V_slice hv4; subst hv; obtain ⟨_, hc4, hC4⟩ := Kd.V_reads' hv4; clear hv4 hz1 hB1 hv1 hb1 hV pz0 pz1 pz2 pz3 pz4 pz5 pz6 pz7 pf0 pf1 pf2 pf3 pf4 pf5 pf6 pf7; obtain ⟨yz0, yz1, yz2, yz3, yz4, yz5, yz6, yz7, yf0, yf1, yf2, yf3, yf4, yf5, yf6, yf7⟩ := g8 hz4
  go_region_with (go_at_call 53; refine (impl_own.calls A1 c1 r o _ (Kd.C_below hC4 (below_drew (Below.refl _ _))) hc4 ho).mono ?_; rintro e w6 ⟨v6, rfl, hR6, hb6⟩; have hz6 := blk_below (w := w4.drew) hz4 hb6; have hB6 := below_step (below_drew hB4) hb6; obtain ⟨A6, c6, hv⟩ := Kd.R_slice hR6; subst hv; clear yz0 yz1 yz2 yz3 yz4 yz5 yz6 yz7 yf0 yf1 yf2 yf3 yf4 yf5 yf6 yf7; obtain ⟨yz0, yz1, yz2, yz3, yz4, yz5, yz6, yz7, yf0, yf1, yf2, yf3, yf4, yf5, yf6, yf7⟩ := g8 hz6)
  all_goals
    go_wp2
    refine bodyPost_ret (results_ctt rfl _ _ w.heap.size 44 _ (0, 0) _ rfl (set8 hz6) Tryz.underlying44 rfl (by kernel_rfl)) rfl ?_
    have hlt : w.heap.size < w4.heap.size := blk_lt hz4
    exact ⟨_, _, rfl, Kd.R_nil _ _ _ _ _, Kd.R_mono (Kd.R_lower (set8_R (Kd.R_bound hR6) (fun k_ h => by have h5 : w4.heap.size ≤ k_ := h.2.1; omega)) (Nat.le_of_lt hlt)) (fun _ _ => by simp [Value.ownBlock]), set8_B hB6 (Nat.le_refl _)⟩
theorem roid_long (P : Nat → Prop) (A : Option Addr) (c : Nat) (l : List Int) (w : World) (hV : Kd.V (Kd.int .u8) 5 w w.heap.size P (.slice A l.length c) l) (hn : 12 ≤ l.length) :
    Calls Tryz.prog 76 #[.slice A l.length c] w fun e w' => ∃ v : Value, e = .returned (.tuple #[.agg #[.int .u8 (rd l 0), .int .u8 (rd l 1), .int .u8 (rd l 2), .int .u8 (rd l 3), .int .u8 (rd l 4), .int .u8 (rd l 5), .int .u8 (rd l 6), .int .u8 (rd l 7), .int .u8 (rd l 8), .int .u8 (rd l 9), .int .u8 (rd l 10), .int .u8 (rd l 11)], v, .bool true]) ∧ Kd.V (Kd.int .u8) 5 w' w.heap.size P v (l.drop 12) ∧ Below w.heap.size w w' := by
  obtain ⟨_, hroom, hC⟩ := Kd.V_reads' hV
  obtain ⟨a, hA, _⟩ := Kd.at_int hC 0 (by omega) (by omega)
  subst hA
  have hcc : ((12 : Int) ≤ (c : Int)) = True := eq_true (by omega)
  have hcc2 : (12 ≤ c) = True := eq_true (by omega)
  have hll : ((12 : Int) ≤ (l.length : Int)) = True := eq_true (by omega)
  have hcell : ∀ i, i < 12 → w.cell? (a.add i) = some (.int .u8 (rd l (i : Int))) := by
    intro i hi
    obtain ⟨a', hA', hx⟩ := Kd.at_int hC (i : Int) (by omega) (by omega)
    cases hA'
    rw [Int.toNat_natCast] at hx
    exact hx
  have hW : ∀ o1 o2, Below w.heap.size w (((w.alloc o1).alloc o2).drew) := fun o1 o2 => below_drew (below_alloc (below_alloc (Below.refl _ _) _) _)
  have hcW : ∀ o1 o2 i, i < 12 → (((w.alloc o1).alloc o2).drew).cell? (a.add i) = some (.int .u8 (rd l (i : Int))) := fun o1 o2 i hi => by
    have h1 := hcell i hi
    exact ((hW o1 o2).cell (World.block_lt_of_cell? w _ h1)).trans h1
  have k0 := fun o1 o2 => hcW o1 o2 0 (by omega)
  have k1 := fun o1 o2 => hcW o1 o2 1 (by omega)
  have k2 := fun o1 o2 => hcW o1 o2 2 (by omega)
  have k3 := fun o1 o2 => hcW o1 o2 3 (by omega)
  have k4 := fun o1 o2 => hcW o1 o2 4 (by omega)
  have k5 := fun o1 o2 => hcW o1 o2 5 (by omega)
  have k6 := fun o1 o2 => hcW o1 o2 6 (by omega)
  have k7 := fun o1 o2 => hcW o1 o2 7 (by omega)
  have k8 := fun o1 o2 => hcW o1 o2 8 (by omega)
  have k9 := fun o1 o2 => hcW o1 o2 9 (by omega)
  have k10 := fun o1 o2 => hcW o1 o2 10 (by omega)
  have k11 := fun o1 o2 => hcW o1 o2 11 (by omega)
  clear hcell hcW
  have hd : decide ((l.length : Int) < 12) = false := decide_eq_false (by omega)
  have hd2 : decide (l.length < 12) = false := decide_eq_false (by omega)
  obtain ⟨i0, hi0, _, hsz0, _⟩ := info_parts info5
  have hcut := cut_from (P := Tryz.prog) 22 5 .i64 Tryz.underlying22 hi0 1 hsz0 (some a) l.length c 12 (by omega) (by omega)
  have hF : Kd.F (Kd.int .u8) w P (some a) l.length l := (Kd.V_at (base := w.heap.size) hV).2.2
  have hr := Kd.F_cut (m := (12 : Int).toNat) (c := c) hF (by show 12 ≤ l.length; omega) hroom
  obtain ⟨A8, hA8⟩ : ∃ A1, A1 = (if c = (12 : Int).toNat then (some a) else ((some a) : Option Addr).map (·.add ((12 : Int).toNat * 1))) := ⟨_, rfl⟩; have hy : (l.drop 12).length = l.length - (12 : Int).toNat := List.length_drop
  have hr' : Kd.F (Kd.int .u8) w P A8 (l.drop 12).length (l.drop 12) := by rw [hA8]; exact hr
  rw [← hA8] at hcut; clear hA8 hr hF
  have hV2 : Kd.V (Kd.int .u8) 5 w w.heap.size P (.slice A8 (l.drop 12).length (c - (12 : Int).toNat)) (l.drop 12) := Kd.V_mk (by rw [hy]; exact Nat.sub_le_sub_right hroom _) hr'
  rw [hy] at hV2; clear hr' hy hV hC; obtain ⟨W, hWe⟩ : ∃ W, W = (((w.alloc (.cells #[.int .u8 0, .int .u8 0, .int .u8 0, .int .u8 0, .int .u8 0, .int .u8 0, .int .u8 0, .int .u8 0, .int .u8 0, .int .u8 0, .int .u8 0, .int .u8 0] 122)).alloc (.cells #[.int .u8 0, .int .u8 0, .int .u8 0, .int .u8 0, .int .u8 0, .int .u8 0, .int .u8 0, .int .u8 0, .int .u8 0, .int .u8 0, .int .u8 0, .int .u8 0] 122)).drew) := ⟨_, rfl⟩
  have hB1 : Below w.heap.size w W := by rw [hWe]; exact hW _ _
  have hg0 : W.heap[w.heap.size]? = some (.cells #[.int .u8 0, .int .u8 0, .int .u8 0, .int .u8 0, .int .u8 0, .int .u8 0, .int .u8 0, .int .u8 0, .int .u8 0, .int .u8 0, .int .u8 0, .int .u8 0] 122 (0, 0)) := by rw [hWe]; exact blk_below (blk_new12 w _ _ _) (below_drew (Below.refl _ _))
  have hg1 : W.heap[w.heap.size + 1]? = some (.cells #[.int .u8 0, .int .u8 0, .int .u8 0, .int .u8 0, .int .u8 0, .int .u8 0, .int .u8 0, .int .u8 0, .int .u8 0, .int .u8 0, .int .u8 0, .int .u8 0] 122 (0, 0)) := by
    rw [hWe]; have h1 := blk_new (w.alloc (.cells #[.int .u8 0, .int .u8 0, .int .u8 0, .int .u8 0, .int .u8 0, .int .u8 0, .int .u8 0, .int .u8 0, .int .u8 0, .int .u8 0, .int .u8 0, .int .u8 0] 122)) (Obj.cells #[.int .u8 0, .int .u8 0, .int .u8 0, .int .u8 0, .int .u8 0, .int .u8 0, .int .u8 0, .int .u8 0, .int .u8 0, .int .u8 0, .int .u8 0, .int .u8 0] 122)
    simp only [World.size_alloc] at h1
    exact blk_below h1 (below_drew (Below.refl _ _))
  have hcopy0 := run_copy_row (P := Tryz.prog) W 22 22 3 5 (w.heap.size + 1) 0 12 12 a 12 c #[.int .u8 0, .int .u8 0, .int .u8 0, .int .u8 0, .int .u8 0, .int .u8 0, .int .u8 0, .int .u8 0, .int .u8 0, .int .u8 0, .int .u8 0, .int .u8 0] 122 [.int .u8 (rd l 0), .int .u8 (rd l 1), .int .u8 (rd l 2), .int .u8 (rd l 3), .int .u8 (rd l 4), .int .u8 (rd l 5), .int .u8 (rd l 6), .int .u8 (rd l 7), .int .u8 (rd l 8), .int .u8 (rd l 9), .int .u8 (rd l 10), .int .u8 (rd l 11)] Tryz.underlying22 (by simp [hi0, hsz0]) hg1 rfl
    (fun j v hj => by
      match j, hj with
      | 0, hj => cases hj; rw [hWe]; exact k0 _ _
      | 1, hj => cases hj; rw [hWe]; exact k1 _ _
      | 2, hj => cases hj; rw [hWe]; exact k2 _ _
      | 3, hj => cases hj; rw [hWe]; exact k3 _ _
      | 4, hj => cases hj; rw [hWe]; exact k4 _ _
      | 5, hj => cases hj; rw [hWe]; exact k5 _ _
      | 6, hj => cases hj; rw [hWe]; exact k6 _ _
      | 7, hj => cases hj; rw [hWe]; exact k7 _ _
      | 8, hj => cases hj; rw [hWe]; exact k8 _ _
      | 9, hj => cases hj; rw [hWe]; exact k9 _ _
      | 10, hj => cases hj; rw [hWe]; exact k10 _ _
      | 11, hj => cases hj; rw [hWe]; exact k11 _ _
      | j + 12, hj => simp at hj) (by simp) (by intro v hv; simp at hv; rcases hv with rfl | rfl | rfl | rfl | rfl | rfl | rfl | rfl | rfl | rfl | rfl | rfl <;> rfl)
  have hcopy : Sem.run Tryz.prog (Builtin.copy_ #[22, 22] 3 #[.slice (some ⟨w.heap.size + 1, 0, none⟩) 12 12, .slice (some a) 12 c]) W = .ok (.int .i64 12) (W.setRow (w.heap.size + 1) #[.int .u8 (rd l 0), .int .u8 (rd l 1), .int .u8 (rd l 2), .int .u8 (rd l 3), .int .u8 (rd l 4), .int .u8 (rd l 5), .int .u8 (rd l 6), .int .u8 (rd l 7), .int .u8 (rd l 8), .int .u8 (rd l 9), .int .u8 (rd l 10), .int .u8 (rd l 11)]) := hcopy0; clear hcopy0; obtain ⟨w2, hw2⟩ : ∃ w2, w2 = W.setRow (w.heap.size + 1) #[.int .u8 (rd l 0), .int .u8 (rd l 1), .int .u8 (rd l 2), .int .u8 (rd l 3), .int .u8 (rd l 4), .int .u8 (rd l 5), .int .u8 (rd l 6), .int .u8 (rd l 7), .int .u8 (rd l 8), .int .u8 (rd l 9), .int .u8 (rd l 10), .int .u8 (rd l 11)] := ⟨_, rfl⟩
  have hz1 : w2.heap[w.heap.size + 1]? = some (.cells #[.int .u8 (rd l 0), .int .u8 (rd l 1), .int .u8 (rd l 2), .int .u8 (rd l 3), .int .u8 (rd l 4), .int .u8 (rd l 5), .int .u8 (rd l 6), .int .u8 (rd l 7), .int .u8 (rd l 8), .int .u8 (rd l 9), .int .u8 (rd l 10), .int .u8 (rd l 11)] 122 (0, 0)) := by rw [hw2]; exact setRow_heap W _ _ _ _ _ hg1
  have hz0 : w2.heap[w.heap.size]? = some (.cells #[.int .u8 0, .int .u8 0, .int .u8 0, .int .u8 0, .int .u8 0, .int .u8 0, .int .u8 0, .int .u8 0, .int .u8 0, .int .u8 0, .int .u8 0, .int .u8 0] 122 (0, 0)) := by rw [hw2, setRow_other W _ _ _ (by omega)]; exact hg0
  have hB2 : Below w.heap.size w w2 := by rw [hw2]; exact below_row hB1 (by omega) _
  rw [← hw2, hWe] at hcopy; clear hw2 hg0 hg1 hB1 hWe W k0 k1 k2 k3 k4 k5 k6 k7 k8 k9 k10 k11 hW hll; have q0 := (blk_cell hz1 0).trans rfl; have z0 := (blk_cell hz0 0).trans rfl; have f0 := blk_frozen hz0 0; have q1 := (blk_cell hz1 1).trans rfl; have z1 := (blk_cell hz0 1).trans rfl; have f1 := blk_frozen hz0 1; have q2 := (blk_cell hz1 2).trans rfl; have z2 := (blk_cell hz0 2).trans rfl; have f2 := blk_frozen hz0 2; have q3 := (blk_cell hz1 3).trans rfl; have z3 := (blk_cell hz0 3).trans rfl; have f3 := blk_frozen hz0 3; have q4 := (blk_cell hz1 4).trans rfl; have z4 := (blk_cell hz0 4).trans rfl; have f4 := blk_frozen hz0 4; have q5 := (blk_cell hz1 5).trans rfl; have z5 := (blk_cell hz0 5).trans rfl; have f5 := blk_frozen hz0 5; have q6 := (blk_cell hz1 6).trans rfl; have z6 := (blk_cell hz0 6).trans rfl; have f6 := blk_frozen hz0 6; have q7 := (blk_cell hz1 7).trans rfl; have z7 := (blk_cell hz0 7).trans rfl; have f7 := blk_frozen hz0 7; have q8 := (blk_cell hz1 8).trans rfl; have z8 := (blk_cell hz0 8).trans rfl; have f8 := blk_frozen hz0 8; have q9 := (blk_cell hz1 9).trans rfl; have z9 := (blk_cell hz0 9).trans rfl; have f9 := blk_frozen hz0 9; have q10 := (blk_cell hz1 10).trans rfl; have z10 := (blk_cell hz0 10).trans rfl; have f10 := blk_frozen hz0 10; have q11 := (blk_cell hz1 11).trans rfl; have z11 := (blk_cell hz0 11).trans rfl; have f11 := blk_frozen hz0 11
  go_enter Tryz.func76, Tryz.ntmps76
  go_wp2
  go_region
  go_wp2
  go_region
  go_wp2
  refine bodyPost_ret (results_ctt rfl _ _ w.heap.size 122 #[.int .u8 (rd l 0), .int .u8 (rd l 1), .int .u8 (rd l 2), .int .u8 (rd l 3), .int .u8 (rd l 4), .int .u8 (rd l 5), .int .u8 (rd l 6), .int .u8 (rd l 7), .int .u8 (rd l 8), .int .u8 (rd l 9), .int .u8 (rd l 10), .int .u8 (rd l 11)] (0, 0) _ rfl (blk_below (set12 hz0) (below_drew (Below.refl _ _))) Tryz.underlying122 rfl (by kernel_rfl)) rfl ?_
  have hB3 := below_drew (set12_B (b0 := .int .u8 (rd l 0)) (b1 := .int .u8 (rd l 1)) (b2 := .int .u8 (rd l 2)) (b3 := .int .u8 (rd l 3)) (b4 := .int .u8 (rd l 4)) (b5 := .int .u8 (rd l 5)) (b6 := .int .u8 (rd l 6)) (b7 := .int .u8 (rd l 7)) (b8 := .int .u8 (rd l 8)) (b9 := .int .u8 (rd l 9)) (b10 := .int .u8 (rd l 10)) (b11 := .int .u8 (rd l 11)) hB2 (Nat.le_refl _))
  exact ⟨_, rfl, Kd.V_below hV2 hB3, hB3⟩
theorem rdbp_long (k : Nat) (A : Option Addr) (c N : Nat) (l : List Int) (s : ByteArray) (r : List Int) (w : World) (hN : N ≤ w.heap.size) (hV : Kd.V (Kd.int .u8) 5 w w.heap.size (fun k_ => k_ < N) (.slice A l.length c) l) (hf : bsoncore_readstring.f k l = some (s, r, true)) (hr : 12 ≤ r.length) :
    Calls Tryz.prog 81 #[.slice A l.length c] w fun e w' => ∃ v : Value, e = .returned (.tuple #[.string s, .agg #[.int .u8 (rd r 0), .int .u8 (rd r 1), .int .u8 (rd r 2), .int .u8 (rd r 3), .int .u8 (rd r 4), .int .u8 (rd r 5), .int .u8 (rd r 6), .int .u8 (rd r 7), .int .u8 (rd r 8), .int .u8 (rd r 9), .int .u8 (rd r 10), .int .u8 (rd r 11)], v, .bool true]) ∧ Kd.V (Kd.int .u8) 5 w' w.heap.size (fun k_ => k_ < N ∨ w.heap.size + 1 ≤ k_) v (r.drop 12) ∧ Below w.heap.size w w' := by
  have B0 : ∀ o : Obj, Below w.heap.size w (w.alloc o) := fun o => below_alloc (Below.refl _ _) o
  go_enter Tryz.func81, Tryz.ntmps81
  go_wp2_with (first | (go_at_call 111; (refine (bsoncore_readstring.calls k (fun k_ => k_ < N) A c l s r true _ (V_reb hV (B0 _) _) hf).mono ?_; rintro e w1 ⟨v1, rfl, hv1, hb1⟩; obtain ⟨A1, c1, hv⟩ := Kd.V_slice hv1; subst hv; have hz1 := blk_below (blk_new w _) hb1; have hB1 := below_step (B0 _) hb1)) | (go_at_call 76; (refine (roid_long (fun k_ => k_ < N ∨ w.heap.size + 1 ≤ k_) A1 c1 r _ (V_reb (Kd.V_mono hv1 (fun k_ h => by simpa using h)) (Below.refl _ _) _) hr).mono ?_; rintro e w2 ⟨v2, rfl, hv2, hb2⟩; have hz := blk_below hz1 hb2; have hB2 := below_step hB1 hb2; have z0 := (blk_cell hz 0).trans rfl; have f0 := blk_frozen hz 0; have z1 := (blk_cell hz 1).trans rfl; have f1 := blk_frozen hz 1; have z2 := (blk_cell hz 2).trans rfl; have f2 := blk_frozen hz 2; have z3 := (blk_cell hz 3).trans rfl; have f3 := blk_frozen hz 3; have z4 := (blk_cell hz 4).trans rfl; have f4 := blk_frozen hz 4; have z5 := (blk_cell hz 5).trans rfl; have f5 := blk_frozen hz 5; have z6 := (blk_cell hz 6).trans rfl; have f6 := blk_frozen hz 6; have z7 := (blk_cell hz 7).trans rfl; have f7 := blk_frozen hz 7; have z8 := (blk_cell hz 8).trans rfl; have f8 := blk_frozen hz 8; have z9 := (blk_cell hz 9).trans rfl; have f9 := blk_frozen hz 9; have z10 := (blk_cell hz 10).trans rfl; have f10 := blk_frozen hz 10; have z11 := (blk_cell hz 11).trans rfl; have f11 := blk_frozen hz 11)))
  have hz3 := set12 (b0 := .int .u8 (rd r 0)) (b1 := .int .u8 (rd r 1)) (b2 := .int .u8 (rd r 2)) (b3 := .int .u8 (rd r 3)) (b4 := .int .u8 (rd r 4)) (b5 := .int .u8 (rd r 5)) (b6 := .int .u8 (rd r 6)) (b7 := .int .u8 (rd r 7)) (b8 := .int .u8 (rd r 8)) (b9 := .int .u8 (rd r 9)) (b10 := .int .u8 (rd r 10)) (b11 := .int .u8 (rd r 11)) hz; have hB3 := set12_B (b0 := .int .u8 (rd r 0)) (b1 := .int .u8 (rd r 1)) (b2 := .int .u8 (rd r 2)) (b3 := .int .u8 (rd r 3)) (b4 := .int .u8 (rd r 4)) (b5 := .int .u8 (rd r 5)) (b6 := .int .u8 (rd r 6)) (b7 := .int .u8 (rd r 7)) (b8 := .int .u8 (rd r 8)) (b9 := .int .u8 (rd r 9)) (b10 := .int .u8 (rd r 10)) (b11 := .int .u8 (rd r 11)) hB2 (Nat.le_refl _)
  have hv3 := set12_V (g := w.heap.size) (b0 := .int .u8 (rd r 0)) (b1 := .int .u8 (rd r 1)) (b2 := .int .u8 (rd r 2)) (b3 := .int .u8 (rd r 3)) (b4 := .int .u8 (rd r 4)) (b5 := .int .u8 (rd r 5)) (b6 := .int .u8 (rd r 6)) (b7 := .int .u8 (rd r 7)) (b8 := .int .u8 (rd r 8)) (b9 := .int .u8 (rd r 9)) (b10 := .int .u8 (rd r 10)) (b11 := .int .u8 (rd r 11)) hv2 (fun k_ h => by omega)
  clear hz1 hB1 hv1 hb1 hz hb2 hB2 hv2
  generalize ((((((((((((w2.setCell ⟨w.heap.size, 0, none⟩ (.int .u8 (rd r 0))).setCell ⟨w.heap.size, 1, none⟩ (.int .u8 (rd r 1))).setCell ⟨w.heap.size, 2, none⟩ (.int .u8 (rd r 2))).setCell ⟨w.heap.size, 3, none⟩ (.int .u8 (rd r 3))).setCell ⟨w.heap.size, 4, none⟩ (.int .u8 (rd r 4))).setCell ⟨w.heap.size, 5, none⟩ (.int .u8 (rd r 5))).setCell ⟨w.heap.size, 6, none⟩ (.int .u8 (rd r 6))).setCell ⟨w.heap.size, 7, none⟩ (.int .u8 (rd r 7))).setCell ⟨w.heap.size, 8, none⟩ (.int .u8 (rd r 8))).setCell ⟨w.heap.size, 9, none⟩ (.int .u8 (rd r 9))).setCell ⟨w.heap.size, 10, none⟩ (.int .u8 (rd r 10))).setCell ⟨w.heap.size, 11, none⟩ (.int .u8 (rd r 11))) = w3 at hz3 hB3 hv3 ⊢
  clear z0 f0 z1 f1 z2 f2 z3 f3 z4 f4 z5 f5 z6 f6 z7 f7 z8 f8 z9 f9 z10 f10 z11 f11
  have yz0 := (blk_cell hz3 0).trans rfl; have yf0 := blk_frozen hz3 0; have yz1 := (blk_cell hz3 1).trans rfl; have yf1 := blk_frozen hz3 1; have yz2 := (blk_cell hz3 2).trans rfl; have yf2 := blk_frozen hz3 2; have yz3 := (blk_cell hz3 3).trans rfl; have yf3 := blk_frozen hz3 3; have yz4 := (blk_cell hz3 4).trans rfl; have yf4 := blk_frozen hz3 4; have yz5 := (blk_cell hz3 5).trans rfl; have yf5 := blk_frozen hz3 5; have yz6 := (blk_cell hz3 6).trans rfl; have yf6 := blk_frozen hz3 6; have yz7 := (blk_cell hz3 7).trans rfl; have yf7 := blk_frozen hz3 7; have yz8 := (blk_cell hz3 8).trans rfl; have yf8 := blk_frozen hz3 8; have yz9 := (blk_cell hz3 9).trans rfl; have yf9 := blk_frozen hz3 9; have yz10 := (blk_cell hz3 10).trans rfl; have yf10 := blk_frozen hz3 10; have yz11 := (blk_cell hz3 11).trans rfl; have yf11 := blk_frozen hz3 11
  go_region
  go_wp2
  refine bodyPost_ret (results_list (rs := [.tmp 2, .cell 3 122, .tmp 4, .tmp 5]) rfl (by simp) (.tmp (.cell w.heap.size 122 #[.int .u8 (rd r 0), .int .u8 (rd r 1), .int .u8 (rd r 2), .int .u8 (rd r 3), .int .u8 (rd r 4), .int .u8 (rd r 5), .int .u8 (rd r 6), .int .u8 (rd r 7), .int .u8 (rd r 8), .int .u8 (rd r 9), .int .u8 (rd r 10), .int .u8 (rd r 11)] (0, 0) _ rfl (blk_below (set12 hz3) (below_drew (Below.refl _ _))) Tryz.underlying122 rfl (by kernel_rfl) (.tmp (.tmp .nil))))) rfl ?_
  exact ⟨_, rfl, Kd.V_drew (set12_V (b0 := .int .u8 (rd r 0)) (b1 := .int .u8 (rd r 1)) (b2 := .int .u8 (rd r 2)) (b3 := .int .u8 (rd r 3)) (b4 := .int .u8 (rd r 4)) (b5 := .int .u8 (rd r 5)) (b6 := .int .u8 (rd r 6)) (b7 := .int .u8 (rd r 7)) (b8 := .int .u8 (rd r 8)) (b9 := .int .u8 (rd r 9)) (b10 := .int .u8 (rd r 10)) (b11 := .int .u8 (rd r 11)) hv3 (fun k_ h => by omega)), below_drew (set12_B (b0 := .int .u8 (rd r 0)) (b1 := .int .u8 (rd r 1)) (b2 := .int .u8 (rd r 2)) (b3 := .int .u8 (rd r 3)) (b4 := .int .u8 (rd r 4)) (b5 := .int .u8 (rd r 5)) (b6 := .int .u8 (rd r 6)) (b7 := .int .u8 (rd r 7)) (b8 := .int .u8 (rd r 8)) (b9 := .int .u8 (rd r 9)) (b10 := .int .u8 (rd r 10)) (b11 := .int .u8 (rd r 11)) hB3 (Nat.le_refl _))⟩
def oidRow (l : List Int) : List Int := [rd l 0, rd l 1, rd l 2, rd l 3, rd l 4, rd l 5, rd l 6, rd l 7, rd l 8, rd l 9, rd l 10, rd l 11]
theorem rd7 (A : Option Addr) (c : Nat) (l r o o2 : List Int) (hr : r = l.drop 12) (ho2 : impl_own.f (oidRow l) = some o2) (ho : impl_own.f r = some o) (hl : 12 ≤ l.length) (w : World) (hV : ∀ w0, Below w.heap.size w w0 → Kd.V (Kd.int .u8) 5 w0 w0.heap.size (fun k_ => k_ < w.heap.size) (.slice A l.length c) l) :
    Calls Tryz.prog 34 #[.int .i64 7, .slice A l.length c] w (YesPost w 7 ⟨#[]⟩ ⟨#[]⟩ 0 0 0 o2 o) := by
  have B0 : ∀ o1 o2 : Obj, Below w.heap.size w ((w.alloc o1).alloc o2) := fun o1 o2 => below_alloc (below_alloc (Below.refl _ _) o1) o2
  go_enter Tryz.func34, Tryz.ntmps34
  go_wp2_with (first | (go_at_call 76; (refine (roid_long (fun k_ => k_ < w.heap.size) A c l _ (hV _ (B0 _ _)) hl).mono ?_; rintro e w1 ⟨v1, rfl, hv0, hb1⟩; have hzg := blk_below (blk_new12 w _ _ _) hb1; have hzo := blk_below (blk_new2 w _ _ _) hb1; have hB1 := below_step (B0 _ _) hb1; have hv1 : Kd.V (Kd.int .u8) 5 w1 w.heap.size (fun k_ => k_ < w.heap.size ∨ w.heap.size + (1 + 1) ≤ k_) v1 r := (by rw [hr]; exact Kd.V_mono hv0 (fun k_ h => Or.inl h)); obtain ⟨oz0, oz1, oz2, oz3, oz4, oz5, oz6, oz7, oz8, oz9, oz10, oz11, of0, of1, of2, of3, of4, of5, of6, of7, of8, of9, of10, of11⟩ := g12 hzo; obtain ⟨pz0, pz1, pz2, pz3, pz4, pz5, pz6, pz7, pf0, pf1, pf2, pf3, pf4, pf5, pf6, pf7⟩ := g8 hzg)) | (go_at_call 53; (refine (impl_own.calls (some ⟨w.heap.size + 1, 0, none⟩) 12 [rd l 0, rd l 1, rd l 2, rd l 3, rd l 4, rd l 5, rd l 6, rd l 7, rd l 8, rd l 9, rd l 10, rd l 11] o2 _ (C_of_blk12' (set12 hzo)) (Nat.le_refl _) ho2).mono ?_; rintro e w3 ⟨v3, rfl, hR3, hb3⟩; obtain ⟨A3, c3, hv⟩ := Kd.R_slice hR3; subst hv; obtain ⟨hz3, hs3⟩ := st_ (set12_O hzg (by omega)) hb3; have hB3 := below_step (set12_B hB1 (by omega)) hb3; have hv3 := Kd.V_below (set12_V (g := w.heap.size + 1) hv1 (fun k_ h => by omega)) hb3; clear oz0 oz1 oz2 oz3 oz4 oz5 oz6 oz7 oz8 oz9 oz10 oz11 of0 of1 of2 of3 of4 of5 of6 of7 of8 of9 of10 of11 pz0 pz1 pz2 pz3 pz4 pz5 pz6 pz7 pf0 pf1 pf2 pf3 pf4 pf5 pf6 pf7; obtain ⟨qz0, qz1, qz2, qz3, qz4, qz5, qz6, qz7, qf0, qf1, qf2, qf3, qf4, qf5, qf6, qf7⟩ := g8 hz3)))
  refine gen_ (α := Unit) (P := Code.wp _ _ _ _) (X := fun W => Kd.R (Kd.int .u8) 5 W w.heap.size (fun k_ => k_ ≠ w.heap.size) (.slice A3 o2.length c3) o2) (blk_put hz3 6 _ rfl) (below_set (j := 6) hB3 (Nat.le_refl _)) (vf hv3) (Kd.R_far (p := ⟨w.heap.size, 6, none⟩) (Kd.R_mono (ok' := fun k_ => k_ ≠ w.heap.size) (Kd.R_lower (Kd.R_bound hR3) (Nat.le_of_lt hs3)) (fun k_ h => by have h5 := h.2.1; omega)) (fun k_ h => h) _) ?_
  rintro w4 hz4 hB4 hv4 hX
  obtain ⟨A1, c1, hv⟩ := Kd.V_slice hv4; subst hv; obtain ⟨_, hc4, hC4⟩ := Kd.V_reads' hv4; clear hv4 hr hz3 hB3 hv3 hb3 hR3 hs3 hzg hzo hB1 hv1 hb1 hV qz0 qz1 qz2 qz3 qz4 qz5 qz6 qz7 qf0 qf1 qf2 qf3 qf4 qf5 qf6 qf7; obtain ⟨yz0, yz1, yz2, yz3, yz4, yz5, yz6, yz7, yf0, yf1, yf2, yf3, yf4, yf5, yf6, yf7⟩ := g8 hz4
  go_region_with (go_at_call 53; refine (impl_own.calls A1 c1 r o _ (Kd.C_below hC4 (below_drew (Below.refl _ _))) hc4 ho).mono ?_; rintro e w6 ⟨v6, rfl, hR6, hb6⟩; have hz6 := blk_below (w := w4.drew) hz4 hb6; have hB6 := below_step (below_drew hB4) hb6; obtain ⟨A6, c6, hv⟩ := Kd.R_slice hR6; subst hv; clear yz0 yz1 yz2 yz3 yz4 yz5 yz6 yz7 yf0 yf1 yf2 yf3 yf4 yf5 yf6 yf7; obtain ⟨yz0, yz1, yz2, yz3, yz4, yz5, yz6, yz7, yf0, yf1, yf2, yf3, yf4, yf5, yf6, yf7⟩ := g8 hz6)
  all_goals
    go_wp2
    refine bodyPost_ret (results_ctt rfl _ _ w.heap.size 44 _ (0, 0) _ rfl (set8 hz6) Tryz.underlying44 rfl (by kernel_rfl)) rfl ?_
    have hlt : w.heap.size < w4.heap.size := blk_lt hz4; have hR5 := Kd.R_below (w1 := w6) (Kd.R_bound hX) (below_step (below_drew (Below.refl _ _)) hb6)
    exact ⟨_, _, rfl, Kd.R_mono (set8_R hR5 (fun k_ h => h.1)) (fun k_ h e => by have h1 := Kd.R_base hR6 k_ e.symm; have h2 := h.2.2; have h3 : w4.heap.size ≤ k_ := h1; omega), Kd.R_mono (Kd.R_lower (set8_R (Kd.R_bound hR6) (fun k_ h => by have h5 : w4.heap.size ≤ k_ := h.2.1; omega)) (Nat.le_of_lt hlt)) (fun k_ h e => by have h1 := (Kd.R_bound hX).1 k_ e.symm; have h2 := h1.2.2; have h5 : w4.heap.size ≤ k_ := h.2.1; omega), set8_B hB6 (Nat.le_refl _)⟩
theorem rd12 (k : Nat) (A : Option Addr) (c : Nat) (l x r o o2 : List Int) (s : ByteArray) (hf : bsoncore_readstring.f k l = some (s, x, true)) (hr : r = x.drop 12) (ho2 : impl_own.f (oidRow x) = some o2) (ho : impl_own.f r = some o) (hl : 12 ≤ x.length) (w : World) (hV : ∀ w0, Below w.heap.size w w0 → Kd.V (Kd.int .u8) 5 w0 w0.heap.size (fun k_ => k_ < w.heap.size) (.slice A l.length c) l) :
    Calls Tryz.prog 34 #[.int .i64 12, .slice A l.length c] w (YesPost w 12 s ⟨#[]⟩ 0 0 0 o2 o) := by
  have B0 : ∀ o1 o2 : Obj, Below w.heap.size w ((w.alloc o1).alloc o2) := fun o1 o2 => below_alloc (below_alloc (Below.refl _ _) o1) o2
  go_enter Tryz.func34, Tryz.ntmps34
  go_wp2_with (first | (go_at_call 81; (refine (rdbp_long k A c w.heap.size l s x _ (B0 _ _).size (hV _ (B0 _ _)) hf hl).mono ?_; rintro e w1 ⟨v1, rfl, hv0, hb1⟩; have hzg := blk_below (blk_new12 w _ _ _) hb1; have hzo := blk_below (blk_new2 w _ _ _) hb1; have hB1 := below_step (B0 _ _) hb1; have hv1 : Kd.V (Kd.int .u8) 5 w1 w.heap.size (fun k_ => k_ < w.heap.size ∨ w.heap.size + (1 + 1) ≤ k_) v1 r := (by rw [hr]; exact Kd.V_mono hv0 (fun k_ h => by simp only [World.size_alloc] at h; omega)); obtain ⟨oz0, oz1, oz2, oz3, oz4, oz5, oz6, oz7, oz8, oz9, oz10, oz11, of0, of1, of2, of3, of4, of5, of6, of7, of8, of9, of10, of11⟩ := g12 hzo; obtain ⟨pz0, pz1, pz2, pz3, pz4, pz5, pz6, pz7, pf0, pf1, pf2, pf3, pf4, pf5, pf6, pf7⟩ := g8 hzg)) | (go_at_call 53; (refine (impl_own.calls (some ⟨w.heap.size + 1, 0, none⟩) 12 [rd x 0, rd x 1, rd x 2, rd x 3, rd x 4, rd x 5, rd x 6, rd x 7, rd x 8, rd x 9, rd x 10, rd x 11] o2 _ (C_of_blk12' (set12 (blk_far hzo (p := ⟨w.heap.size, 1, none⟩) (by show w.heap.size + 1 ≠ w.heap.size; omega) _))) (Nat.le_refl _) ho2).mono ?_; rintro e w3 ⟨v3, rfl, hR3, hb3⟩; obtain ⟨A3, c3, hv⟩ := Kd.R_slice hR3; subst hv; obtain ⟨hz3, hs3⟩ := st_ (set12_O (blk_put hzg 1 _ rfl) (by omega)) hb3; have hB3 := below_step (set12_B (below_set (j := 1) hB1 (Nat.le_refl _)) (by omega)) hb3; have hv3 := Kd.V_below (set12_V (g := w.heap.size + 1) (vf hv1) (fun k_ h => by omega)) hb3; clear oz0 oz1 oz2 oz3 oz4 oz5 oz6 oz7 oz8 oz9 oz10 oz11 of0 of1 of2 of3 of4 of5 of6 of7 of8 of9 of10 of11 pz0 pz1 pz2 pz3 pz4 pz5 pz6 pz7 pf0 pf1 pf2 pf3 pf4 pf5 pf6 pf7; obtain ⟨qz0, qz1, qz2, qz3, qz4, qz5, qz6, qz7, qf0, qf1, qf2, qf3, qf4, qf5, qf6, qf7⟩ := g8 hz3)))
  refine gen_ (α := Unit) (P := Code.wp _ _ _ _) (X := fun W => Kd.R (Kd.int .u8) 5 W w.heap.size (fun k_ => k_ ≠ w.heap.size) (.slice A3 o2.length c3) o2) (blk_put hz3 6 _ rfl) (below_set (j := 6) hB3 (Nat.le_refl _)) (vf hv3) (Kd.R_far (p := ⟨w.heap.size, 6, none⟩) (Kd.R_mono (ok' := fun k_ => k_ ≠ w.heap.size) (Kd.R_lower (Kd.R_bound hR3) (Nat.le_of_lt hs3)) (fun k_ h => by have h5 := h.2.1; omega)) (fun k_ h => h) _) ?_
  rintro w4 hz4 hB4 hv4 hX
  obtain ⟨A1, c1, hv⟩ := Kd.V_slice hv4; subst hv; obtain ⟨_, hc4, hC4⟩ := Kd.V_reads' hv4; clear hv4 hr hz3 hB3 hv3 hb3 hR3 hs3 hzg hzo hB1 hv1 hb1 hV qz0 qz1 qz2 qz3 qz4 qz5 qz6 qz7 qf0 qf1 qf2 qf3 qf4 qf5 qf6 qf7; obtain ⟨yz0, yz1, yz2, yz3, yz4, yz5, yz6, yz7, yf0, yf1, yf2, yf3, yf4, yf5, yf6, yf7⟩ := g8 hz4
  go_region_with (go_at_call 53; refine (impl_own.calls A1 c1 r o _ (Kd.C_below hC4 (below_drew (Below.refl _ _))) hc4 ho).mono ?_; rintro e w6 ⟨v6, rfl, hR6, hb6⟩; have hz6 := blk_below (w := w4.drew) hz4 hb6; have hB6 := below_step (below_drew hB4) hb6; obtain ⟨A6, c6, hv⟩ := Kd.R_slice hR6; subst hv; clear yz0 yz1 yz2 yz3 yz4 yz5 yz6 yz7 yf0 yf1 yf2 yf3 yf4 yf5 yf6 yf7; obtain ⟨yz0, yz1, yz2, yz3, yz4, yz5, yz6, yz7, yf0, yf1, yf2, yf3, yf4, yf5, yf6, yf7⟩ := g8 hz6)
  all_goals
    go_wp2
    refine bodyPost_ret (results_ctt rfl _ _ w.heap.size 44 _ (0, 0) _ rfl (set8 hz6) Tryz.underlying44 rfl (by kernel_rfl)) rfl ?_
    have hlt : w.heap.size < w4.heap.size := blk_lt hz4; have hR5 := Kd.R_below (w1 := w6) (Kd.R_bound hX) (below_step (below_drew (Below.refl _ _)) hb6)
    exact ⟨_, _, rfl, Kd.R_mono (set8_R hR5 (fun k_ h => h.1)) (fun k_ h e => by have h1 := Kd.R_base hR6 k_ e.symm; have h2 := h.2.2; have h3 : w4.heap.size ≤ k_ := h1; omega), Kd.R_mono (Kd.R_lower (set8_R (Kd.R_bound hR6) (fun k_ h => by have h5 : w4.heap.size ≤ k_ := h.2.1; omega)) (Nat.le_of_lt hlt)) (fun k_ h e => by have h1 := (Kd.R_bound hX).1 k_ e.symm; have h2 := h1.2.2; have h5 : w4.heap.size ≤ k_ := h.2.1; omega), set8_B hB6 (Nat.le_refl _)⟩
def impl_Read.f (k : Nat) (a0 : Int) (l1 : List Int) : Option (Int × ByteArray × ByteArray × Int × Int × Int × List Int × List S95 × List Int × Bool) :=
  if a0 = 1 then (binaryutil_ReadU64.f l1).bind fun x => if x.2.2 = true then if 0 ≤ x.1 then (impl_own.f x.2.1).bind fun o => some (1, ⟨#[]⟩, ⟨#[]⟩, 0, x.1, 0, [], [], o, true) else none else none
  else if a0 = 2 then (bsoncore_ReadString.f k l1).bind fun x => if x.2.2 = true then (impl_own.f x.2.1).bind fun o => some (2, x.1, ⟨#[]⟩, 0, 0, 0, [], [], o, true) else none
  else if a0 = 3 then (bsoncore_ReadDocument.f l1).bind fun x => if x.2.2 = true then (impl_own.f x.1).bind fun o2 => (impl_own.f x.2.1).bind fun o => some (3, ⟨#[]⟩, ⟨#[]⟩, 0, 0, 0, o2, [], o, true) else none
  else if a0 = 4 then (bsoncore_ReadArray.f l1).bind fun x => if x.2.2 = true then (impl_own.f x.1).bind fun o2 => (impl_own.f x.2.1).bind fun o => some (4, ⟨#[]⟩, ⟨#[]⟩, 0, 0, 0, o2, [], o, true) else none
  else if a0 = 5 then (bsoncore_ReadBinary.f k l1).bind fun x => if x.2.2.2 = true then (impl_own.f x.2.1).bind fun o2 => (impl_own.f x.2.2.1).bind fun o => some (5, ⟨#[]⟩, ⟨#[]⟩, (wrap64 x.1), 0, 0, o2, [], o, true) else none
  else if a0 = 7 then if l1.length < 12 then none else (impl_own.f (oidRow l1)).bind fun o2 => (impl_own.f (l1.drop 12)).bind fun o => some (7, ⟨#[]⟩, ⟨#[]⟩, 0, 0, 0, o2, [], o, true)
  else if a0 = 8 then (bsoncore_ReadBoolean.f l1).bind fun x => if x.2.2 = true then (impl_one.f x.1).bind fun y => (impl_own.f x.2.1).bind fun o => some (8, ⟨#[]⟩, ⟨#[]⟩, y, 0, 0, [], [], o, true) else none
  else if a0 = 9 then (bsoncore_ReadDateTime.f l1).bind fun x => if x.2.2 = true then (impl_own.f x.2.1).bind fun o => some (9, ⟨#[]⟩, ⟨#[]⟩, x.1, 0, 0, [], [], o, true) else none
  else if a0 = 11 then (bsoncore_ReadRegex.f l1).bind fun x => if x.2.2.2 = true then (impl_own.f x.2.2.1).bind fun o => some (11, x.1, x.2.1, 0, 0, 0, [], [], o, true) else none
  else if a0 = 12 then (bsoncore_readstring.f k l1).bind fun x => if x.2.2 = false ∨ x.2.1.length < 12 then none else (impl_own.f (oidRow x.2.1)).bind fun o2 => (impl_own.f (x.2.1.drop 12)).bind fun o => some (12, x.1, ⟨#[]⟩, 0, 0, 0, o2, [], o, true)
  else if a0 = 13 then (bsoncore_ReadJavaScript.f k l1).bind fun x => if x.2.2 = true then (impl_own.f x.2.1).bind fun o => some (13, x.1, ⟨#[]⟩, 0, 0, 0, [], [], o, true) else none
  else if a0 = 14 then (bsoncore_ReadSymbol.f k l1).bind fun x => if x.2.2 = true then (impl_own.f x.2.1).bind fun o => some (14, x.1, ⟨#[]⟩, 0, 0, 0, [], [], o, true) else none
  else if a0 = 15 then (bsoncore_ReadCodeWithScope.f k l1).bind fun x => if x.2.2.2 = true then (impl_own.f x.2.1).bind fun o2 => (impl_own.f x.2.2.1).bind fun o => some (15, x.1, ⟨#[]⟩, 0, 0, 0, o2, [], o, true) else none
  else if a0 = 16 then (bsoncore_ReadInt32.f l1).bind fun x => if x.2.2 = true then (impl_own.f x.2.1).bind fun o => some (16, ⟨#[]⟩, ⟨#[]⟩, (wrap64 x.1), 0, 0, [], [], o, true) else none
  else if a0 = 17 then (bsoncore_ReadTimestamp.f l1).bind fun x => if x.2.2.2 = true then (impl_own.f x.2.2.1).bind fun o => some (17, ⟨#[]⟩, ⟨#[]⟩, 0, (Go.bits .or .u64 (IntKind.u64.wrap ((IntKind.u64.wrap x.1) * 4294967296)) (IntKind.u64.wrap x.2.1)), 0, [], [], o, true) else none
  else if a0 = 18 then (bsoncore_ReadInt64.f l1).bind fun x => if x.2.2 = true then (impl_own.f x.2.1).bind fun o => some (18, ⟨#[]⟩, ⟨#[]⟩, x.1, 0, 0, [], [], o, true) else none
  else if a0 = 19 then (bsoncore_ReadDecimal128.f l1).bind fun x => if x.2.2.2 = true then (impl_own.f x.2.2.1).bind fun o => some (19, ⟨#[]⟩, ⟨#[]⟩, 0, x.2.1, x.1, [], [], o, true) else none
  else if a0 = 6 then (bsoncore_ReadValue.f k l1 6).bind fun x => if x.2.2.2 = true then (impl_own.f x.2.2.1).bind fun o => some (6, ⟨#[]⟩, ⟨#[]⟩, 0, 0, 0, [], [], o, true) else none
  else if a0 = 10 then (bsoncore_ReadValue.f k l1 10).bind fun x => if x.2.2.2 = true then (impl_own.f x.2.2.1).bind fun o => some (10, ⟨#[]⟩, ⟨#[]⟩, 0, 0, 0, [], [], o, true) else none
  else if a0 = 127 then (bsoncore_ReadValue.f k l1 127).bind fun x => if x.2.2.2 = true then (impl_own.f x.2.2.1).bind fun o => some (127, ⟨#[]⟩, ⟨#[]⟩, 0, 0, 0, [], [], o, true) else none
  else if a0 = 255 then (bsoncore_ReadValue.f k l1 255).bind fun x => if x.2.2.2 = true then (impl_own.f x.2.2.1).bind fun o => some (255, ⟨#[]⟩, ⟨#[]⟩, 0, 0, 0, [], [], o, true) else none
  else none
theorem impl_Read.mono : ∀ a0 a1 k, LeO (impl_Read.f k a0 a1) (impl_Read.f (k + 1) a0 a1) := by
  intro a0 a1 k
  unfold impl_Read.f
  exact (LeO.ite (LeO.refl _) (LeO.ite (LeO.bind (bsoncore_ReadString.mono _ _) (fun _ => LeO.refl _)) (LeO.ite (LeO.refl _) (LeO.ite (LeO.refl _) (LeO.ite (LeO.bind (bsoncore_ReadBinary.mono _ _) (fun _ => LeO.refl _)) (LeO.ite (LeO.refl _) (LeO.ite (LeO.refl _) (LeO.ite (LeO.refl _) (LeO.ite (LeO.refl _) (LeO.ite (LeO.bind (bsoncore_readstring.mono _ _) (fun _ => LeO.refl _)) (LeO.ite (LeO.bind (bsoncore_ReadJavaScript.mono _ _) (fun _ => LeO.refl _)) (LeO.ite (LeO.bind (bsoncore_ReadSymbol.mono _ _) (fun _ => LeO.refl _)) (LeO.ite (LeO.bind (bsoncore_ReadCodeWithScope.mono _ _) (fun _ => LeO.refl _)) (LeO.ite (LeO.refl _) (LeO.ite (LeO.refl _) (LeO.ite (LeO.refl _) (LeO.ite (LeO.refl _) (LeO.ite (LeO.bind (bsoncore_ReadValue.mono _ _ _) (fun _ => LeO.refl _)) (LeO.ite (LeO.bind (bsoncore_ReadValue.mono _ _ _) (fun _ => LeO.refl _)) (LeO.ite (LeO.bind (bsoncore_ReadValue.mono _ _ _) (fun _ => LeO.refl _)) (LeO.ite (LeO.bind (bsoncore_ReadValue.mono _ _ _) (fun _ => LeO.refl _)) (LeO.refl _))))))))))))))))))))))
theorem impl_Read.calls (k : Nat) (a0 : Int) (A1 : Option Addr) (c1 : Nat) (l1 : List Int) (r1 : Int) (r2 : ByteArray) (r3 : ByteArray) (r4 : Int) (r5 : Int) (r6 : Int) (r7 : List Int) (r8 : List (S95)) (r9 : List Int) (r10 : Bool) (w : World) (hr1 : Kd.C (Kd.int .u8) w A1 l1.length l1) (hc1 : l1.length ≤ c1) (h : impl_Read.f k a0 l1 = some (r1, r2, r3, r4, r5, r6, r7, r8, r9, r10)) :
    Calls Tryz.prog 34 #[.int .i64 a0, .slice A1 l1.length c1] w fun e w' => ∃ v6_ v7_ v8_ : Value, e = .returned (.tuple #[.agg #[.int .i64 r1, .string r2, .string r3, .int .i64 r4, .int .u64 r5, .int .u64 r6, v6_, v7_], v8_, .bool r10]) ∧ Kd.R (Kd.int .u8) 5 w' w.heap.size (fun k_ => some k_ ≠ (v8_ : Value).ownBlock) v6_ r7 ∧ Kd.R k95 95 w' w.heap.size (fun k_ => some k_ ≠ (v6_ : Value).ownBlock ∧ some k_ ≠ (v8_ : Value).ownBlock) v7_ r8 ∧ Kd.R (Kd.int .u8) 5 w' w.heap.size (fun k_ => some k_ ≠ (v6_ : Value).ownBlock) v8_ r9 ∧ Below w.heap.size w w' := by
  unfold impl_Read.f at h
  have hV : ∀ w0, Below w.heap.size w w0 → Kd.V (Kd.int .u8) 5 w0 w0.heap.size (fun k_ => k_ < w.heap.size) (.slice A1 l1.length c1) l1 := fun w0 hb => Kd.V_mk hc1 (Kd.F_mono (Kd.F_below (Kd.F_bound (Kd.C_F (Kd.heap_int _) hr1)) hb) (fun k_ hk => hk.2))
  have yes : ∀ {K a d e g : Int} {s s2 : ByteArray} {x o : List Int}, Calls Tryz.prog 34 #[.int .i64 K, .slice A1 l1.length c1] w (YesPost w a s s2 d e g x o) → some (a, s, s2, d, e, g, x, ([] : List S95), o, true) = some (r1, r2, r3, r4, r5, r6, r7, r8, r9, r10) → Calls Tryz.prog 34 #[.int .i64 K, .slice A1 l1.length c1] w fun e w' => ∃ v6_ v7_ v8_ : Value, e = .returned (.tuple #[.agg #[.int .i64 r1, .string r2, .string r3, .int .i64 r4, .int .u64 r5, .int .u64 r6, v6_, v7_], v8_, .bool r10]) ∧ Kd.R (Kd.int .u8) 5 w' w.heap.size (fun k_ => some k_ ≠ (v8_ : Value).ownBlock) v6_ r7 ∧ Kd.R k95 95 w' w.heap.size (fun k_ => some k_ ≠ (v6_ : Value).ownBlock ∧ some k_ ≠ (v8_ : Value).ownBlock) v7_ r8 ∧ Kd.R (Kd.int .u8) 5 w' w.heap.size (fun k_ => some k_ ≠ (v6_ : Value).ownBlock) v8_ r9 ∧ Below w.heap.size w w' := by
    intro K a d e g s s2 x o hcall h
    simp only [Option.some.injEq, Prod.mk.injEq] at h
    obtain ⟨rfl, rfl, rfl, rfl, rfl, rfl, rfl, rfl, rfl, rfl⟩ := h
    refine hcall.mono ?_
    rintro e w' ⟨v2, v, rfl, hR2, hR, hB⟩
    exact ⟨v2, _, v, rfl, hR2, Kd.R_nil _ _ _ _ _, hR, hB⟩
  by_cases h1 : a0 = 1
  · subst h1
    rw [if_pos rfl] at h; obtain ⟨⟨n, r, ok⟩, hf, h⟩ := Option.bind_eq_some_iff.1 h
    cases ok with
    | true =>
      rw [if_pos rfl] at h
      by_cases hn : 0 ≤ n
      case neg => rw [if_neg hn] at h; cases h
      rw [if_pos hn] at h; obtain ⟨m, rfl⟩ := Int.eq_ofNat_of_zero_le hn; obtain ⟨o, ho, h⟩ := Option.bind_eq_some_iff.1 h
      exact yes (rd1 A1 c1 l1 r o m w hV hf ho) h
    | false =>
      rw [if_neg (by simp)] at h; cases h
  rw [if_neg h1] at h
  by_cases h2 : a0 = 2
  · subst h2
    rw [if_pos rfl] at h; obtain ⟨⟨s, r, ok⟩, hf, h⟩ := Option.bind_eq_some_iff.1 h
    cases ok with
    | true =>
      rw [if_pos rfl] at h; obtain ⟨o, ho, h⟩ := Option.bind_eq_some_iff.1 h
      exact yes (rd2_yes k A1 c1 l1 r o s w hV hf ho) h
    | false =>
      rw [if_neg (by simp)] at h; cases h
  rw [if_neg h2] at h
  by_cases h3 : a0 = 3
  · subst h3
    rw [if_pos rfl] at h; obtain ⟨⟨b, r, ok⟩, hf, h⟩ := Option.bind_eq_some_iff.1 h
    cases ok with
    | true =>
      rw [if_pos rfl] at h; obtain ⟨o2, ho2, h⟩ := Option.bind_eq_some_iff.1 h; obtain ⟨o, ho, h⟩ := Option.bind_eq_some_iff.1 h
      exact yes (rd3_yes k A1 c1 l1 r o b o2 ho2 w hV hf ho) h
    | false =>
      rw [if_neg (by simp)] at h; cases h
  rw [if_neg h3] at h
  by_cases h4 : a0 = 4
  · subst h4
    rw [if_pos rfl] at h; obtain ⟨⟨b, r, ok⟩, hf, h⟩ := Option.bind_eq_some_iff.1 h
    cases ok with
    | true =>
      rw [if_pos rfl] at h; obtain ⟨o2, ho2, h⟩ := Option.bind_eq_some_iff.1 h; obtain ⟨o, ho, h⟩ := Option.bind_eq_some_iff.1 h
      exact yes (rd4_yes k A1 c1 l1 r o b o2 ho2 w hV hf ho) h
    | false =>
      rw [if_neg (by simp)] at h; cases h
  rw [if_neg h4] at h
  by_cases h5 : a0 = 5
  · subst h5
    rw [if_pos rfl] at h; obtain ⟨⟨t, b, r, ok⟩, hf, h⟩ := Option.bind_eq_some_iff.1 h
    cases ok with
    | true =>
      rw [if_pos rfl] at h; obtain ⟨o2, ho2, h⟩ := Option.bind_eq_some_iff.1 h; obtain ⟨o, ho, h⟩ := Option.bind_eq_some_iff.1 h
      exact yes (rd5_yes k A1 c1 l1 r o t b o2 ho2 w hV hf ho) h
    | false =>
      rw [if_neg (by simp)] at h; cases h
  rw [if_neg h5] at h
  by_cases h7 : a0 = 7
  · subst h7
    rw [if_pos rfl] at h
    by_cases hl : l1.length < 12
    · rw [if_pos hl] at h; cases h
    rw [if_neg hl] at h; obtain ⟨o2, ho2, h⟩ := Option.bind_eq_some_iff.1 h; obtain ⟨o, ho, h⟩ := Option.bind_eq_some_iff.1 h
    exact yes (rd7 A1 c1 l1 _ o o2 rfl ho2 ho (by omega) w hV) h
  rw [if_neg h7] at h
  by_cases h8 : a0 = 8
  · subst h8
    rw [if_pos rfl] at h; obtain ⟨⟨q, r, ok⟩, hf, h⟩ := Option.bind_eq_some_iff.1 h
    cases ok with
    | true =>
      rw [if_pos rfl] at h; obtain ⟨y, hy, h⟩ := Option.bind_eq_some_iff.1 h; obtain ⟨o, ho, h⟩ := Option.bind_eq_some_iff.1 h
      exact yes (rd8_yes k A1 c1 l1 r o q y hy w hV hf ho) h
    | false =>
      rw [if_neg (by simp)] at h; cases h
  rw [if_neg h8] at h
  by_cases h9 : a0 = 9
  · subst h9
    rw [if_pos rfl] at h; obtain ⟨⟨n, r, ok⟩, hf, h⟩ := Option.bind_eq_some_iff.1 h
    cases ok with
    | true =>
      rw [if_pos rfl] at h; obtain ⟨o, ho, h⟩ := Option.bind_eq_some_iff.1 h
      exact yes (rd9_yes k A1 c1 l1 r o n w hV hf ho) h
    | false =>
      rw [if_neg (by simp)] at h; cases h
  rw [if_neg h9] at h
  by_cases h11 : a0 = 11
  · subst h11
    rw [if_pos rfl] at h; obtain ⟨⟨s, s2, r, ok⟩, hf, h⟩ := Option.bind_eq_some_iff.1 h
    cases ok with
    | true =>
      rw [if_pos rfl] at h; obtain ⟨o, ho, h⟩ := Option.bind_eq_some_iff.1 h
      exact yes (rd11_yes k A1 c1 l1 r o s s2 w hV hf ho) h
    | false =>
      rw [if_neg (by simp)] at h; cases h
  rw [if_neg h11] at h
  by_cases h12 : a0 = 12
  · subst h12
    rw [if_pos rfl] at h; obtain ⟨⟨s, x, ok⟩, hf, h⟩ := Option.bind_eq_some_iff.1 h
    by_cases hl : ok = false ∨ x.length < 12
    · rw [if_pos hl] at h; cases h
    rw [if_neg hl] at h; obtain ⟨o2, ho2, h⟩ := Option.bind_eq_some_iff.1 h; obtain ⟨o, ho, h⟩ := Option.bind_eq_some_iff.1 h
    have hok : ok = true := by cases ok <;> simp_all
    subst hok
    exact yes (rd12 k A1 c1 l1 x _ o o2 s hf rfl ho2 ho (by simp at hl; omega) w hV) h
  rw [if_neg h12] at h
  by_cases h13 : a0 = 13
  · subst h13
    rw [if_pos rfl] at h; obtain ⟨⟨s, r, ok⟩, hf, h⟩ := Option.bind_eq_some_iff.1 h
    cases ok with
    | true =>
      rw [if_pos rfl] at h; obtain ⟨o, ho, h⟩ := Option.bind_eq_some_iff.1 h
      exact yes (rd13_yes k A1 c1 l1 r o s w hV hf ho) h
    | false =>
      rw [if_neg (by simp)] at h; cases h
  rw [if_neg h13] at h
  by_cases h14 : a0 = 14
  · subst h14
    rw [if_pos rfl] at h; obtain ⟨⟨s, r, ok⟩, hf, h⟩ := Option.bind_eq_some_iff.1 h
    cases ok with
    | true =>
      rw [if_pos rfl] at h; obtain ⟨o, ho, h⟩ := Option.bind_eq_some_iff.1 h
      exact yes (rd14_yes k A1 c1 l1 r o s w hV hf ho) h
    | false =>
      rw [if_neg (by simp)] at h; cases h
  rw [if_neg h14] at h
  by_cases h15 : a0 = 15
  · subst h15
    rw [if_pos rfl] at h; obtain ⟨⟨s, b, r, ok⟩, hf, h⟩ := Option.bind_eq_some_iff.1 h
    cases ok with
    | true =>
      rw [if_pos rfl] at h; obtain ⟨o2, ho2, h⟩ := Option.bind_eq_some_iff.1 h; obtain ⟨o, ho, h⟩ := Option.bind_eq_some_iff.1 h
      exact yes (rd15_yes k A1 c1 l1 r o s b o2 ho2 w hV hf ho) h
    | false =>
      rw [if_neg (by simp)] at h; cases h
  rw [if_neg h15] at h
  by_cases h16 : a0 = 16
  · subst h16
    rw [if_pos rfl] at h; obtain ⟨⟨n, r, ok⟩, hf, h⟩ := Option.bind_eq_some_iff.1 h
    cases ok with
    | true =>
      rw [if_pos rfl] at h; obtain ⟨o, ho, h⟩ := Option.bind_eq_some_iff.1 h
      exact yes (rd16_yes k A1 c1 l1 r o n w hV hf ho) h
    | false =>
      rw [if_neg (by simp)] at h; cases h
  rw [if_neg h16] at h
  by_cases h17 : a0 = 17
  · subst h17
    rw [if_pos rfl] at h; obtain ⟨⟨n, n2, r, ok⟩, hf, h⟩ := Option.bind_eq_some_iff.1 h
    cases ok with
    | true =>
      rw [if_pos rfl] at h; obtain ⟨o, ho, h⟩ := Option.bind_eq_some_iff.1 h
      exact yes (rd17_yes k A1 c1 l1 r o n n2 w hV hf ho) h
    | false =>
      rw [if_neg (by simp)] at h; cases h
  rw [if_neg h17] at h
  by_cases h18 : a0 = 18
  · subst h18
    rw [if_pos rfl] at h; obtain ⟨⟨n, r, ok⟩, hf, h⟩ := Option.bind_eq_some_iff.1 h
    cases ok with
    | true =>
      rw [if_pos rfl] at h; obtain ⟨o, ho, h⟩ := Option.bind_eq_some_iff.1 h
      exact yes (rd18_yes k A1 c1 l1 r o n w hV hf ho) h
    | false =>
      rw [if_neg (by simp)] at h; cases h
  rw [if_neg h18] at h
  by_cases h19 : a0 = 19
  · subst h19
    rw [if_pos rfl] at h; obtain ⟨⟨n, n2, r, ok⟩, hf, h⟩ := Option.bind_eq_some_iff.1 h
    cases ok with
    | true =>
      rw [if_pos rfl] at h; obtain ⟨o, ho, h⟩ := Option.bind_eq_some_iff.1 h
      exact yes (rd19_yes k A1 c1 l1 r o n n2 w hV hf ho) h
    | false =>
      rw [if_neg (by simp)] at h; cases h
  rw [if_neg h19] at h
  by_cases h6 : a0 = 6
  · subst h6
    rw [if_pos rfl] at h; obtain ⟨⟨t, b, r, ok⟩, hf, h⟩ := Option.bind_eq_some_iff.1 h
    cases ok with
    | true =>
      rw [if_pos rfl] at h; obtain ⟨o, ho, h⟩ := Option.bind_eq_some_iff.1 h
      exact yes (rd6_yes k A1 c1 l1 r o t b w hV hf ho) h
    | false =>
      rw [if_neg (by simp)] at h; cases h
  rw [if_neg h6] at h
  by_cases h10 : a0 = 10
  · subst h10
    rw [if_pos rfl] at h; obtain ⟨⟨t, b, r, ok⟩, hf, h⟩ := Option.bind_eq_some_iff.1 h
    cases ok with
    | true =>
      rw [if_pos rfl] at h; obtain ⟨o, ho, h⟩ := Option.bind_eq_some_iff.1 h
      exact yes (rd10_yes k A1 c1 l1 r o t b w hV hf ho) h
    | false =>
      rw [if_neg (by simp)] at h; cases h
  rw [if_neg h10] at h
  by_cases h127 : a0 = 127
  · subst h127
    rw [if_pos rfl] at h; obtain ⟨⟨t, b, r, ok⟩, hf, h⟩ := Option.bind_eq_some_iff.1 h
    cases ok with
    | true =>
      rw [if_pos rfl] at h; obtain ⟨o, ho, h⟩ := Option.bind_eq_some_iff.1 h
      exact yes (rd127_yes k A1 c1 l1 r o t b w hV hf ho) h
    | false =>
      rw [if_neg (by simp)] at h; cases h
  rw [if_neg h127] at h
  by_cases h255 : a0 = 255
  · subst h255
    rw [if_pos rfl] at h; obtain ⟨⟨t, b, r, ok⟩, hf, h⟩ := Option.bind_eq_some_iff.1 h
    cases ok with
    | true =>
      rw [if_pos rfl] at h; obtain ⟨o, ho, h⟩ := Option.bind_eq_some_iff.1 h
      exact yes (rd255_yes k A1 c1 l1 r o t b w hV hf ho) h
    | false =>
      rw [if_neg (by simp)] at h; cases h
  rw [if_neg h255] at h
  cases h
end Go.Proofs.YtanecebppagakaaGreatDoor.PRx
