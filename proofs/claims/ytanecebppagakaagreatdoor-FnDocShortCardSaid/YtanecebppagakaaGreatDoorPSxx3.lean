import Derived.Test.YtanecebppagakaaGreatDoorPSxx0
import Derived.Test.YtanecebppagakaaGreatDoorPSxx1
import Derived.Test.YtanecebppagakaaGreatDoorPSxx2
namespace Go.Proofs.YtanecebppagakaaGreatDoor.PSx
open Go.Proofs.YtanecebppagakaaGreatDoor.HW (tt ff)
open Go.RowKit Go.Proofs.YtanecebppagakaaGreatDoorW.PrintWords Go.Proofs.YtanecebppagakaaGreatDoorW.PrintLast Go.Proofs.YtanecebppagakaaGreatDoorW.PrintMore
attribute [local go_sem] max2_int min2_int max_two min_two max_three min_three max_four min_four
set_option linter.unusedVariables false
set_option maxHeartbeats 8000000
set_option maxRecDepth 100000
set_option linter.unusedSimpArgs false
theorem set8 {w : World} {g t : Nat} {a0 a1 a2 a3 a4 a5 a6 a7 b0 b1 b2 b3 b4 b5 b6 b7 : Value} (hz : w.heap[g]? = some (.cells #[a0, a1, a2, a3, a4, a5, a6, a7] t (0, 0))) : ((((((((w.setCell ⟨g, 0, none⟩ b0).setCell ⟨g, 1, none⟩ b1).setCell ⟨g, 2, none⟩ b2).setCell ⟨g, 3, none⟩ b3).setCell ⟨g, 4, none⟩ b4).setCell ⟨g, 5, none⟩ b5).setCell ⟨g, 6, none⟩ b6).setCell ⟨g, 7, none⟩ b7).heap[g]? = some (.cells #[b0, b1, b2, b3, b4, b5, b6, b7] t (0, 0)) := by
  have h := (blk_set (blk_set (blk_set (blk_set (blk_set (blk_set (blk_set (blk_set hz 0 b0) 1 b1) 2 b2) 3 b3) 4 b4) 5 b5) 6 b6) 7 b7)
  simpa only [List.setIfInBounds_toArray, List.set_cons_zero, List.set_cons_succ] using h
theorem set8_R {α : Type} {dk : Kd α} {ty base : Nat} {ok : Nat → Prop} {v : Value} {xs : List α} {w : World} {g : Nat} {b0 b1 b2 b3 b4 b5 b6 b7 : Value} (h : dk.R ty w base ok v xs) (hk : ∀ k, ok k → k ≠ g) : dk.R ty ((((((((w.setCell ⟨g, 0, none⟩ b0).setCell ⟨g, 1, none⟩ b1).setCell ⟨g, 2, none⟩ b2).setCell ⟨g, 3, none⟩ b3).setCell ⟨g, 4, none⟩ b4).setCell ⟨g, 5, none⟩ b5).setCell ⟨g, 6, none⟩ b6).setCell ⟨g, 7, none⟩ b7) base ok v xs := (Kd.R_far (p := ⟨g, 7, none⟩) (Kd.R_far (p := ⟨g, 6, none⟩) (Kd.R_far (p := ⟨g, 5, none⟩) (Kd.R_far (p := ⟨g, 4, none⟩) (Kd.R_far (p := ⟨g, 3, none⟩) (Kd.R_far (p := ⟨g, 2, none⟩) (Kd.R_far (p := ⟨g, 1, none⟩) (Kd.R_far (p := ⟨g, 0, none⟩) h hk b0) hk b1) hk b2) hk b3) hk b4) hk b5) hk b6) hk b7)
theorem set8_V {α : Type} {dk : Kd α} {ty base : Nat} {ok : Nat → Prop} {v : Value} {xs : List α} {w : World} {g : Nat} {b0 b1 b2 b3 b4 b5 b6 b7 : Value} (h : dk.V ty w base ok v xs) (hk : ∀ k, ok k → k ≠ g) : dk.V ty ((((((((w.setCell ⟨g, 0, none⟩ b0).setCell ⟨g, 1, none⟩ b1).setCell ⟨g, 2, none⟩ b2).setCell ⟨g, 3, none⟩ b3).setCell ⟨g, 4, none⟩ b4).setCell ⟨g, 5, none⟩ b5).setCell ⟨g, 6, none⟩ b6).setCell ⟨g, 7, none⟩ b7) base ok v xs := (Kd.V_far (p := ⟨g, 7, none⟩) (Kd.V_far (p := ⟨g, 6, none⟩) (Kd.V_far (p := ⟨g, 5, none⟩) (Kd.V_far (p := ⟨g, 4, none⟩) (Kd.V_far (p := ⟨g, 3, none⟩) (Kd.V_far (p := ⟨g, 2, none⟩) (Kd.V_far (p := ⟨g, 1, none⟩) (Kd.V_far (p := ⟨g, 0, none⟩) h hk b0) hk b1) hk b2) hk b3) hk b4) hk b5) hk b6) hk b7)
theorem set8_B {w0 w : World} {g : Nat} {b0 b1 b2 b3 b4 b5 b6 b7 : Value} (h : Below w0.heap.size w0 w) (hg : w0.heap.size ≤ g) : Below w0.heap.size w0 ((((((((w.setCell ⟨g, 0, none⟩ b0).setCell ⟨g, 1, none⟩ b1).setCell ⟨g, 2, none⟩ b2).setCell ⟨g, 3, none⟩ b3).setCell ⟨g, 4, none⟩ b4).setCell ⟨g, 5, none⟩ b5).setCell ⟨g, 6, none⟩ b6).setCell ⟨g, 7, none⟩ b7) := (below_set (j := 7) (v := b7) (below_set (j := 6) (v := b6) (below_set (j := 5) (v := b5) (below_set (j := 4) (v := b4) (below_set (j := 3) (v := b3) (below_set (j := 2) (v := b2) (below_set (j := 1) (v := b1) (below_set (j := 0) (v := b0) h hg) hg) hg) hg) hg) hg) hg) hg)
theorem g8 {w : World} {g t : Nat} {a0 a1 a2 a3 a4 a5 a6 a7 : Value} (hz : w.heap[g]? = some (.cells #[a0, a1, a2, a3, a4, a5, a6, a7] t (0, 0))) : w.cell? ⟨g, 0, none⟩ = some a0 ∧ w.cell? ⟨g, 1, none⟩ = some a1 ∧ w.cell? ⟨g, 2, none⟩ = some a2 ∧ w.cell? ⟨g, 3, none⟩ = some a3 ∧ w.cell? ⟨g, 4, none⟩ = some a4 ∧ w.cell? ⟨g, 5, none⟩ = some a5 ∧ w.cell? ⟨g, 6, none⟩ = some a6 ∧ w.cell? ⟨g, 7, none⟩ = some a7 ∧ w.frozen? ⟨g, 0, none⟩ = false ∧ w.frozen? ⟨g, 1, none⟩ = false ∧ w.frozen? ⟨g, 2, none⟩ = false ∧ w.frozen? ⟨g, 3, none⟩ = false ∧ w.frozen? ⟨g, 4, none⟩ = false ∧ w.frozen? ⟨g, 5, none⟩ = false ∧ w.frozen? ⟨g, 6, none⟩ = false ∧ w.frozen? ⟨g, 7, none⟩ = false := ⟨(blk_cell hz 0).trans rfl, (blk_cell hz 1).trans rfl, (blk_cell hz 2).trans rfl, (blk_cell hz 3).trans rfl, (blk_cell hz 4).trans rfl, (blk_cell hz 5).trans rfl, (blk_cell hz 6).trans rfl, (blk_cell hz 7).trans rfl, blk_frozen hz 0, blk_frozen hz 1, blk_frozen hz 2, blk_frozen hz 3, blk_frozen hz 4, blk_frozen hz 5, blk_frozen hz 6, blk_frozen hz 7⟩
theorem set12 {w : World} {g t : Nat} {a0 a1 a2 a3 a4 a5 a6 a7 a8 a9 a10 a11 b0 b1 b2 b3 b4 b5 b6 b7 b8 b9 b10 b11 : Value} (hz : w.heap[g]? = some (.cells #[a0, a1, a2, a3, a4, a5, a6, a7, a8, a9, a10, a11] t (0, 0))) : ((((((((((((w.setCell ⟨g, 0, none⟩ b0).setCell ⟨g, 1, none⟩ b1).setCell ⟨g, 2, none⟩ b2).setCell ⟨g, 3, none⟩ b3).setCell ⟨g, 4, none⟩ b4).setCell ⟨g, 5, none⟩ b5).setCell ⟨g, 6, none⟩ b6).setCell ⟨g, 7, none⟩ b7).setCell ⟨g, 8, none⟩ b8).setCell ⟨g, 9, none⟩ b9).setCell ⟨g, 10, none⟩ b10).setCell ⟨g, 11, none⟩ b11).heap[g]? = some (.cells #[b0, b1, b2, b3, b4, b5, b6, b7, b8, b9, b10, b11] t (0, 0)) := by
  have h := (blk_set (blk_set (blk_set (blk_set (blk_set (blk_set (blk_set (blk_set (blk_set (blk_set (blk_set (blk_set hz 0 b0) 1 b1) 2 b2) 3 b3) 4 b4) 5 b5) 6 b6) 7 b7) 8 b8) 9 b9) 10 b10) 11 b11)
  simpa only [List.setIfInBounds_toArray, List.set_cons_zero, List.set_cons_succ] using h
theorem set12_V {α : Type} {dk : Kd α} {ty base : Nat} {ok : Nat → Prop} {v : Value} {xs : List α} {w : World} {g : Nat} {b0 b1 b2 b3 b4 b5 b6 b7 b8 b9 b10 b11 : Value} (h : dk.V ty w base ok v xs) (hk : ∀ k, ok k → k ≠ g) : dk.V ty ((((((((((((w.setCell ⟨g, 0, none⟩ b0).setCell ⟨g, 1, none⟩ b1).setCell ⟨g, 2, none⟩ b2).setCell ⟨g, 3, none⟩ b3).setCell ⟨g, 4, none⟩ b4).setCell ⟨g, 5, none⟩ b5).setCell ⟨g, 6, none⟩ b6).setCell ⟨g, 7, none⟩ b7).setCell ⟨g, 8, none⟩ b8).setCell ⟨g, 9, none⟩ b9).setCell ⟨g, 10, none⟩ b10).setCell ⟨g, 11, none⟩ b11) base ok v xs := (Kd.V_far (p := ⟨g, 11, none⟩) (Kd.V_far (p := ⟨g, 10, none⟩) (Kd.V_far (p := ⟨g, 9, none⟩) (Kd.V_far (p := ⟨g, 8, none⟩) (Kd.V_far (p := ⟨g, 7, none⟩) (Kd.V_far (p := ⟨g, 6, none⟩) (Kd.V_far (p := ⟨g, 5, none⟩) (Kd.V_far (p := ⟨g, 4, none⟩) (Kd.V_far (p := ⟨g, 3, none⟩) (Kd.V_far (p := ⟨g, 2, none⟩) (Kd.V_far (p := ⟨g, 1, none⟩) (Kd.V_far (p := ⟨g, 0, none⟩) h hk b0) hk b1) hk b2) hk b3) hk b4) hk b5) hk b6) hk b7) hk b8) hk b9) hk b10) hk b11)
theorem set12_B {w0 w : World} {g : Nat} {b0 b1 b2 b3 b4 b5 b6 b7 b8 b9 b10 b11 : Value} (h : Below w0.heap.size w0 w) (hg : w0.heap.size ≤ g) : Below w0.heap.size w0 ((((((((((((w.setCell ⟨g, 0, none⟩ b0).setCell ⟨g, 1, none⟩ b1).setCell ⟨g, 2, none⟩ b2).setCell ⟨g, 3, none⟩ b3).setCell ⟨g, 4, none⟩ b4).setCell ⟨g, 5, none⟩ b5).setCell ⟨g, 6, none⟩ b6).setCell ⟨g, 7, none⟩ b7).setCell ⟨g, 8, none⟩ b8).setCell ⟨g, 9, none⟩ b9).setCell ⟨g, 10, none⟩ b10).setCell ⟨g, 11, none⟩ b11) := (below_set (j := 11) (v := b11) (below_set (j := 10) (v := b10) (below_set (j := 9) (v := b9) (below_set (j := 8) (v := b8) (below_set (j := 7) (v := b7) (below_set (j := 6) (v := b6) (below_set (j := 5) (v := b5) (below_set (j := 4) (v := b4) (below_set (j := 3) (v := b3) (below_set (j := 2) (v := b2) (below_set (j := 1) (v := b1) (below_set (j := 0) (v := b0) h hg) hg) hg) hg) hg) hg) hg) hg) hg) hg) hg) hg)
theorem set12_O {w : World} {g k t : Nat} {cs : Array Value} {b0 b1 b2 b3 b4 b5 b6 b7 b8 b9 b10 b11 : Value} (hz : w.heap[k]? = some (.cells cs t (0, 0))) (hk : k ≠ g) : ((((((((((((w.setCell ⟨g, 0, none⟩ b0).setCell ⟨g, 1, none⟩ b1).setCell ⟨g, 2, none⟩ b2).setCell ⟨g, 3, none⟩ b3).setCell ⟨g, 4, none⟩ b4).setCell ⟨g, 5, none⟩ b5).setCell ⟨g, 6, none⟩ b6).setCell ⟨g, 7, none⟩ b7).setCell ⟨g, 8, none⟩ b8).setCell ⟨g, 9, none⟩ b9).setCell ⟨g, 10, none⟩ b10).setCell ⟨g, 11, none⟩ b11).heap[k]? = some (.cells cs t (0, 0)) := (blk_far (blk_far (blk_far (blk_far (blk_far (blk_far (blk_far (blk_far (blk_far (blk_far (blk_far (blk_far hz (p := ⟨g, 0, none⟩) hk b0) (p := ⟨g, 1, none⟩) hk b1) (p := ⟨g, 2, none⟩) hk b2) (p := ⟨g, 3, none⟩) hk b3) (p := ⟨g, 4, none⟩) hk b4) (p := ⟨g, 5, none⟩) hk b5) (p := ⟨g, 6, none⟩) hk b6) (p := ⟨g, 7, none⟩) hk b7) (p := ⟨g, 8, none⟩) hk b8) (p := ⟨g, 9, none⟩) hk b9) (p := ⟨g, 10, none⟩) hk b10) (p := ⟨g, 11, none⟩) hk b11)
theorem g12 {w : World} {g t : Nat} {a0 a1 a2 a3 a4 a5 a6 a7 a8 a9 a10 a11 : Value} (hz : w.heap[g]? = some (.cells #[a0, a1, a2, a3, a4, a5, a6, a7, a8, a9, a10, a11] t (0, 0))) : w.cell? ⟨g, 0, none⟩ = some a0 ∧ w.cell? ⟨g, 1, none⟩ = some a1 ∧ w.cell? ⟨g, 2, none⟩ = some a2 ∧ w.cell? ⟨g, 3, none⟩ = some a3 ∧ w.cell? ⟨g, 4, none⟩ = some a4 ∧ w.cell? ⟨g, 5, none⟩ = some a5 ∧ w.cell? ⟨g, 6, none⟩ = some a6 ∧ w.cell? ⟨g, 7, none⟩ = some a7 ∧ w.cell? ⟨g, 8, none⟩ = some a8 ∧ w.cell? ⟨g, 9, none⟩ = some a9 ∧ w.cell? ⟨g, 10, none⟩ = some a10 ∧ w.cell? ⟨g, 11, none⟩ = some a11 ∧ w.frozen? ⟨g, 0, none⟩ = false ∧ w.frozen? ⟨g, 1, none⟩ = false ∧ w.frozen? ⟨g, 2, none⟩ = false ∧ w.frozen? ⟨g, 3, none⟩ = false ∧ w.frozen? ⟨g, 4, none⟩ = false ∧ w.frozen? ⟨g, 5, none⟩ = false ∧ w.frozen? ⟨g, 6, none⟩ = false ∧ w.frozen? ⟨g, 7, none⟩ = false ∧ w.frozen? ⟨g, 8, none⟩ = false ∧ w.frozen? ⟨g, 9, none⟩ = false ∧ w.frozen? ⟨g, 10, none⟩ = false ∧ w.frozen? ⟨g, 11, none⟩ = false := ⟨(blk_cell hz 0).trans rfl, (blk_cell hz 1).trans rfl, (blk_cell hz 2).trans rfl, (blk_cell hz 3).trans rfl, (blk_cell hz 4).trans rfl, (blk_cell hz 5).trans rfl, (blk_cell hz 6).trans rfl, (blk_cell hz 7).trans rfl, (blk_cell hz 8).trans rfl, (blk_cell hz 9).trans rfl, (blk_cell hz 10).trans rfl, (blk_cell hz 11).trans rfl, blk_frozen hz 0, blk_frozen hz 1, blk_frozen hz 2, blk_frozen hz 3, blk_frozen hz 4, blk_frozen hz 5, blk_frozen hz 6, blk_frozen hz 7, blk_frozen hz 8, blk_frozen hz 9, blk_frozen hz 10, blk_frozen hz 11⟩
theorem V_reb {P : Nat → Prop} {A : Option Addr} {c b : Nat} {l : List Int} {w w' : World} (hV : Kd.V (Kd.int .u8) 5 w b P (.slice A l.length c) l) (hb : Below w.heap.size w w') (b' : Nat) : Kd.V (Kd.int .u8) 5 w' b' P (.slice A l.length c) l :=
  have h := Kd.V_below hV hb
  Kd.V_mk (Kd.V_reads' h).2.1 (Kd.V_at h).2.2
theorem gen_ {α : Type} {P : World → Prop} {w4 w : World} {g t b : Nat} {cs : Array Value} {ok : Nat → Prop} {v : Value} {xs : List Int} {X : World → Prop} (hz : w4.heap[g]? = some (.cells cs t (0, 0))) (hB : Below w.heap.size w w4) (hv : Kd.V (Kd.int .u8) 5 w4 b ok v xs) (hx : X w4)
    (h : ∀ w4 : World, w4.heap[g]? = some (.cells cs t (0, 0)) → Below w.heap.size w w4 → Kd.V (Kd.int .u8) 5 w4 b ok v xs → X w4 → P w4) : P w4 := h w4 hz hB hv hx
theorem vf {w : World} {b N j M : Nat} {v u : Value} {xs : List Int} (h : Kd.V (Kd.int .u8) 5 w b (fun k_ => k_ < N ∨ N + (M + 1) ≤ k_) v xs) : Kd.V (Kd.int .u8) 5 (w.setCell ⟨N, j, none⟩ u) b (fun k_ => k_ < N ∨ N + (M + 1) ≤ k_) v xs := Kd.V_far (p := ⟨N, j, none⟩) h (fun k_ h => by show k_ ≠ N; omega) u
theorem blk_new12 (w : World) (cs : Array Value) (t : Nat) (o : Obj) : ((w.alloc (.cells cs t)).alloc o).heap[w.heap.size]? = some (.cells cs t (0, 0)) := blk_below (blk_new w _) (below_alloc (Below.refl _ _) o)
theorem blk_new2 (w : World) (o : Obj) (cs : Array Value) (t : Nat) : ((w.alloc o).alloc (.cells cs t)).heap[w.heap.size + 1]? = some (.cells cs t (0, 0)) := by
  have h := blk_new (w.alloc o) (Obj.cells cs t)
  simp only [World.size_alloc] at h
  exact h
theorem st_ {W w3 : World} {g : Nat} {o : Obj} (hz : W.heap[g]? = some o) (hb : Below W.heap.size W w3) : w3.heap[g]? = some o ∧ g < W.heap.size := ⟨blk_below hz hb, blk_lt hz⟩
def NoPost (w : World) (o : List Int) (e : Ending) (w' : World) : Prop := ∃ v : Value, e = .returned (.tuple #[.agg #[.int .i64 0, .string ⟨#[]⟩, .string ⟨#[]⟩, .int .i64 0, .int .u64 0, .int .u64 0, .slice none 0 0, .slice none 0 0], v, .bool false]) ∧ Kd.R (Kd.int .u8) 5 w' w.heap.size (fun _ => True) v o ∧ Below w.heap.size w w'
def YesPost (w : World) (k : Int) (s1 s2 : ByteArray) (n bits high : Int) (x o : List Int) (e : Ending) (w' : World) : Prop := ∃ v2 v : Value, e = .returned (.tuple #[.agg #[.int .i64 k, .string s1, .string s2, .int .i64 n, .int .u64 bits, .int .u64 high, v2, .slice none 0 0], v, .bool true]) ∧ Kd.R (Kd.int .u8) 5 w' w.heap.size (fun k_ => some k_ ≠ (v : Value).ownBlock) v2 x ∧ Kd.R (Kd.int .u8) 5 w' w.heap.size (fun k_ => some k_ ≠ (v2 : Value).ownBlock) v o ∧ Below w.heap.size w w'
theorem bits_run (n : Nat) (w : World) : Sem.run Tryz.prog (callFunc 27 #[.float .f64 n]) w = .ok (.value (.int .u64 n)) w := by
  rw [run_callFunc_extern Tryz.func27 (by kernel_rfl) (by kernel_rfl) (by kernel_rfl) (e := Go.Extern.MathFloatBits.float64bits) (by kernel_rfl)]
  rfl
theorem frombits_run (n : Int) (w : World) : Sem.run Tryz.prog (callFunc 26 #[.int .u64 n]) w = .ok (.value (.float .f64 n.toNat)) w := by
  rw [run_callFunc_extern Tryz.func26 (by kernel_rfl) (by kernel_rfl) (by kernel_rfl) (e := Go.Extern.MathFloatBits.float64frombits) (by kernel_rfl)]
  rfl
theorem C_of_blk12 {w : World} {g t : Nat} {b0 b1 b2 b3 b4 b5 b6 b7 b8 b9 b10 b11 : Int} (hz : w.heap[g]? = some (.cells #[.int .u8 b0, .int .u8 b1, .int .u8 b2, .int .u8 b3, .int .u8 b4, .int .u8 b5, .int .u8 b6, .int .u8 b7, .int .u8 b8, .int .u8 b9, .int .u8 b10, .int .u8 b11] t (0, 0))) : Kd.C (Kd.int .u8) w (some ⟨g, 0, none⟩) [b0, b1, b2, b3, b4, b5, b6, b7, b8, b9, b10, b11].length [b0, b1, b2, b3, b4, b5, b6, b7, b8, b9, b10, b11] := by
  refine Kd.C_of_reads (d := (0 : Int)) (h1 := fun _ => rfl) ⟨rfl, by simp, fun _ => ⟨⟨g, 0, none⟩, rfl, fun j hj => ?_⟩⟩
  have e : ∀ o, World.cell? w ((⟨g, 0, none⟩ : Addr).add o) = #[.int .u8 b0, .int .u8 b1, .int .u8 b2, .int .u8 b3, .int .u8 b4, .int .u8 b5, .int .u8 b6, .int .u8 b7, .int .u8 b8, .int .u8 b9, .int .u8 b10, .int .u8 b11][o]? := fun o => by
    have h1 : (⟨g, 0, none⟩ : Addr).add o = ⟨g, o, none⟩ := by
      unfold Addr.add
      split
      next h => subst h; rfl
      next => simp
    rw [h1]
    exact blk_cell hz o
  rw [e]
  match j, hj with
  | 0, _ => rfl
  | 1, _ => rfl
  | 2, _ => rfl
  | 3, _ => rfl
  | 4, _ => rfl
  | 5, _ => rfl
  | 6, _ => rfl
  | 7, _ => rfl
  | 8, _ => rfl
  | 9, _ => rfl
  | 10, _ => rfl
  | 11, _ => rfl
theorem C_of_blk12' {w : World} {g t : Nat} {b0 b1 b2 b3 b4 b5 b6 b7 b8 b9 b10 b11 : Int} (hz : w.heap[g]? = some (.cells #[.int .u8 b0, .int .u8 b1, .int .u8 b2, .int .u8 b3, .int .u8 b4, .int .u8 b5, .int .u8 b6, .int .u8 b7, .int .u8 b8, .int .u8 b9, .int .u8 b10, .int .u8 b11] t (0, 0))) : Kd.C (Kd.int .u8) w (some ⟨g, 0, none⟩) 12 [b0, b1, b2, b3, b4, b5, b6, b7, b8, b9, b10, b11] := C_of_blk12 hz
theorem rd2_no (k : Nat) (A : Option Addr) (c : Nat) (l r o : List Int) (s : ByteArray) (w : World) (hV : ∀ w0, Below w.heap.size w w0 → Kd.V (Kd.int .u8) 5 w0 w0.heap.size (fun k_ => k_ < w.heap.size) (.slice A l.length c) l) (hf : bsoncore_ReadString.f k l = some (s, r, false)) (ho : impl_own.f r = some o) :
    Calls Tryz.prog 34 #[.int .i64 2, .slice A l.length c] w (NoPost w o) := by
  have B0 : ∀ o : Obj, Below w.heap.size w (w.alloc o) := fun o => below_alloc (Below.refl _ _) o
  go_enter Tryz.func34, Tryz.ntmps34
  go_wp2_with (first | (go_at_call 72; (refine (bsoncore_ReadString.calls k (fun k_ => k_ < w.heap.size) A c l s r false _ (hV _ (B0 _)) hf).mono ?_; rintro e w1 ⟨v1, rfl, hv1, hb1⟩; have hz1 := blk_below (blk_new w _) hb1; have hB1 := below_step (B0 _) hb1; replace hv1 : Kd.V (Kd.int .u8) 5 w1 _ (fun k_ => k_ < w.heap.size ∨ w.heap.size + (0 + 1) ≤ k_) v1 r := Kd.V_mono hv1 (fun k_ h => by simpa using h); obtain ⟨pz0, pz1, pz2, pz3, pz4, pz5, pz6, pz7, pf0, pf1, pf2, pf3, pf4, pf5, pf6, pf7⟩ := g8 hz1)))
  refine gen_ (α := Unit) (P := Code.wp _ _ _ _) (X := fun _ => True) (set8 (blk_put hz1 1 _ rfl)) (set8_B (below_set (j := 1) hB1 (Nat.le_refl _)) (Nat.le_refl _)) (set8_V (vf hv1) (fun k_ h => by omega)) trivial ?_
  rintro w4 hz4 hB4 hv4 hX
  obtain ⟨A1, c1, hv⟩ := Kd.V_slice hv4; subst hv; obtain ⟨_, hc4, hC4⟩ := Kd.V_reads' hv4; clear hv4 hz1 hB1 hv1 hb1 hV pz0 pz1 pz2 pz3 pz4 pz5 pz6 pz7 pf0 pf1 pf2 pf3 pf4 pf5 pf6 pf7; obtain ⟨yz0, yz1, yz2, yz3, yz4, yz5, yz6, yz7, yf0, yf1, yf2, yf3, yf4, yf5, yf6, yf7⟩ := g8 hz4
  go_region_with (go_at_call 53; refine (impl_own.calls A1 c1 r o _ (Kd.C_below hC4 (below_drew (Below.refl _ _))) hc4 ho).mono ?_; rintro e w6 ⟨v6, rfl, hR6, hb6⟩; have hz6 := blk_below (w := w4.drew) hz4 hb6; have hB6 := below_step (below_drew hB4) hb6; obtain ⟨A6, c6, hv⟩ := Kd.R_slice hR6; subst hv; clear yz0 yz1 yz2 yz3 yz4 yz5 yz6 yz7 yf0 yf1 yf2 yf3 yf4 yf5 yf6 yf7; obtain ⟨yz0, yz1, yz2, yz3, yz4, yz5, yz6, yz7, yf0, yf1, yf2, yf3, yf4, yf5, yf6, yf7⟩ := g8 hz6)
  all_goals
    go_wp2
    refine bodyPost_ret (results_ctt rfl _ _ w.heap.size 44 _ (0, 0) _ rfl (set8 hz6) Tryz.underlying44 rfl (by kernel_rfl)) rfl ?_
    have hlt : w.heap.size < w4.heap.size := blk_lt hz4
    exact ⟨_, rfl, Kd.R_mono (Kd.R_lower (set8_R (Kd.R_bound hR6) (fun k_ h => by have h5 : w4.heap.size ≤ k_ := h.2.1; omega)) (Nat.le_of_lt hlt)) (fun _ _ => trivial), set8_B hB6 (Nat.le_refl _)⟩
theorem rd3_no (k : Nat) (A : Option Addr) (c : Nat) (l r o : List Int) (b : List Int) (o2 : List Int) (ho2 : impl_own.f b = some o2) (w : World) (hV : ∀ w0, Below w.heap.size w w0 → Kd.V (Kd.int .u8) 5 w0 w0.heap.size (fun k_ => k_ < w.heap.size) (.slice A l.length c) l) (hf : bsoncore_ReadDocument.f l = some (b, r, false)) (ho : impl_own.f r = some o) :
    Calls Tryz.prog 34 #[.int .i64 3, .slice A l.length c] w (NoPost w o) := by
  have B0 : ∀ o : Obj, Below w.heap.size w (w.alloc o) := fun o => below_alloc (Below.refl _ _) o
  go_enter Tryz.func34, Tryz.ntmps34
  go_wp2_with (first | (go_at_call 73; (refine (bsoncore_ReadDocument.calls (fun k_ => k_ < w.heap.size) A c l b r false _ (hV _ (B0 _)) hf).mono ?_; rintro e w1 ⟨vb, v1, rfl, hvb, hv1, hb1⟩; have hz1 := blk_below (blk_new w _) hb1; have hB1 := below_step (B0 _) hb1; replace hv1 : Kd.V (Kd.int .u8) 5 w1 _ (fun k_ => k_ < w.heap.size ∨ w.heap.size + (0 + 1) ≤ k_) v1 r := Kd.V_mono hv1 (fun k_ h => by have h := h.1; simpa using h); replace hvb : Kd.V (Kd.int .u8) 5 w1 w.heap.size (fun k_ => k_ < w.heap.size ∨ w.heap.size + (0 + 1) ≤ k_) vb b := Kd.V_mono (Kd.R_V hvb) (fun k_ h => Or.inr (by simpa using h)); obtain ⟨Ab, cb, hv⟩ := Kd.V_slice hvb; subst hv; obtain ⟨pz0, pz1, pz2, pz3, pz4, pz5, pz6, pz7, pf0, pf1, pf2, pf3, pf4, pf5, pf6, pf7⟩ := g8 hz1)) | (go_at_call 53; (refine (impl_own.calls Ab cb b o2 _ (Kd.V_reads' hvb).2.2 (Kd.V_reads' hvb).2.1 ho2).mono ?_; rintro e w3 ⟨v3, rfl, hR3, hb3⟩; obtain ⟨hz3, hs3⟩ := st_ hz1 hb3; have hB3 := below_step hB1 hb3; have hv3 := Kd.V_below hv1 hb3; obtain ⟨A3, c3, hv⟩ := Kd.R_slice hR3; subst hv; clear pz0 pz1 pz2 pz3 pz4 pz5 pz6 pz7 pf0 pf1 pf2 pf3 pf4 pf5 pf6 pf7; obtain ⟨pz0, pz1, pz2, pz3, pz4, pz5, pz6, pz7, pf0, pf1, pf2, pf3, pf4, pf5, pf6, pf7⟩ := g8 hz3)))
  refine gen_ (α := Unit) (P := Code.wp _ _ _ _) (X := fun _ => True) (set8 (blk_put hz3 6 _ rfl)) (set8_B (below_set (j := 6) hB3 (Nat.le_refl _)) (Nat.le_refl _)) (set8_V (vf hv3) (fun k_ h => by omega)) trivial ?_
  rintro w4 hz4 hB4 hv4 hX
  obtain ⟨A1, c1, hv⟩ := Kd.V_slice hv4; subst hv; obtain ⟨_, hc4, hC4⟩ := Kd.V_reads' hv4; clear hv4 hz1 hB1 hv1 hb1 hV hz3 hB3 hv3 hb3 hR3 hs3 hvb pz0 pz1 pz2 pz3 pz4 pz5 pz6 pz7 pf0 pf1 pf2 pf3 pf4 pf5 pf6 pf7; obtain ⟨yz0, yz1, yz2, yz3, yz4, yz5, yz6, yz7, yf0, yf1, yf2, yf3, yf4, yf5, yf6, yf7⟩ := g8 hz4
  go_region_with (go_at_call 53; refine (impl_own.calls A1 c1 r o _ (Kd.C_below hC4 (below_drew (Below.refl _ _))) hc4 ho).mono ?_; rintro e w6 ⟨v6, rfl, hR6, hb6⟩; have hz6 := blk_below (w := w4.drew) hz4 hb6; have hB6 := below_step (below_drew hB4) hb6; obtain ⟨A6, c6, hv⟩ := Kd.R_slice hR6; subst hv; clear yz0 yz1 yz2 yz3 yz4 yz5 yz6 yz7 yf0 yf1 yf2 yf3 yf4 yf5 yf6 yf7; obtain ⟨yz0, yz1, yz2, yz3, yz4, yz5, yz6, yz7, yf0, yf1, yf2, yf3, yf4, yf5, yf6, yf7⟩ := g8 hz6)
  all_goals
    go_wp2
    refine bodyPost_ret (results_ctt rfl _ _ w.heap.size 44 _ (0, 0) _ rfl (set8 hz6) Tryz.underlying44 rfl (by kernel_rfl)) rfl ?_
    have hlt : w.heap.size < w4.heap.size := blk_lt hz4
    exact ⟨_, rfl, Kd.R_mono (Kd.R_lower (set8_R (Kd.R_bound hR6) (fun k_ h => by have h5 : w4.heap.size ≤ k_ := h.2.1; omega)) (Nat.le_of_lt hlt)) (fun _ _ => trivial), set8_B hB6 (Nat.le_refl _)⟩
theorem rd4_no (k : Nat) (A : Option Addr) (c : Nat) (l r o : List Int) (b : List Int) (o2 : List Int) (ho2 : impl_own.f b = some o2) (w : World) (hV : ∀ w0, Below w.heap.size w w0 → Kd.V (Kd.int .u8) 5 w0 w0.heap.size (fun k_ => k_ < w.heap.size) (.slice A l.length c) l) (hf : bsoncore_ReadArray.f l = some (b, r, false)) (ho : impl_own.f r = some o) :
    Calls Tryz.prog 34 #[.int .i64 4, .slice A l.length c] w (NoPost w o) := by
  have B0 : ∀ o : Obj, Below w.heap.size w (w.alloc o) := fun o => below_alloc (Below.refl _ _) o
  go_enter Tryz.func34, Tryz.ntmps34
  go_wp2_with (first | (go_at_call 74; (refine (bsoncore_ReadArray.calls (fun k_ => k_ < w.heap.size) A c l b r false _ (hV _ (B0 _)) hf).mono ?_; rintro e w1 ⟨vb, v1, rfl, hvb, hv1, hb1⟩; have hz1 := blk_below (blk_new w _) hb1; have hB1 := below_step (B0 _) hb1; replace hv1 : Kd.V (Kd.int .u8) 5 w1 _ (fun k_ => k_ < w.heap.size ∨ w.heap.size + (0 + 1) ≤ k_) v1 r := Kd.V_mono hv1 (fun k_ h => by have h := h.1; simpa using h); replace hvb : Kd.V (Kd.int .u8) 5 w1 w.heap.size (fun k_ => k_ < w.heap.size ∨ w.heap.size + (0 + 1) ≤ k_) vb b := Kd.V_mono (Kd.R_V hvb) (fun k_ h => Or.inr (by simpa using h)); obtain ⟨Ab, cb, hv⟩ := Kd.V_slice hvb; subst hv; obtain ⟨pz0, pz1, pz2, pz3, pz4, pz5, pz6, pz7, pf0, pf1, pf2, pf3, pf4, pf5, pf6, pf7⟩ := g8 hz1)) | (go_at_call 53; (refine (impl_own.calls Ab cb b o2 _ (Kd.V_reads' hvb).2.2 (Kd.V_reads' hvb).2.1 ho2).mono ?_; rintro e w3 ⟨v3, rfl, hR3, hb3⟩; obtain ⟨hz3, hs3⟩ := st_ hz1 hb3; have hB3 := below_step hB1 hb3; have hv3 := Kd.V_below hv1 hb3; obtain ⟨A3, c3, hv⟩ := Kd.R_slice hR3; subst hv; clear pz0 pz1 pz2 pz3 pz4 pz5 pz6 pz7 pf0 pf1 pf2 pf3 pf4 pf5 pf6 pf7; obtain ⟨pz0, pz1, pz2, pz3, pz4, pz5, pz6, pz7, pf0, pf1, pf2, pf3, pf4, pf5, pf6, pf7⟩ := g8 hz3)))
  refine gen_ (α := Unit) (P := Code.wp _ _ _ _) (X := fun _ => True) (set8 (blk_put hz3 6 _ rfl)) (set8_B (below_set (j := 6) hB3 (Nat.le_refl _)) (Nat.le_refl _)) (set8_V (vf hv3) (fun k_ h => by omega)) trivial ?_
  rintro w4 hz4 hB4 hv4 hX
  obtain ⟨A1, c1, hv⟩ := Kd.V_slice hv4; subst hv; obtain ⟨_, hc4, hC4⟩ := Kd.V_reads' hv4; clear hv4 hz1 hB1 hv1 hb1 hV hz3 hB3 hv3 hb3 hR3 hs3 hvb pz0 pz1 pz2 pz3 pz4 pz5 pz6 pz7 pf0 pf1 pf2 pf3 pf4 pf5 pf6 pf7; obtain ⟨yz0, yz1, yz2, yz3, yz4, yz5, yz6, yz7, yf0, yf1, yf2, yf3, yf4, yf5, yf6, yf7⟩ := g8 hz4
  go_region_with (go_at_call 53; refine (impl_own.calls A1 c1 r o _ (Kd.C_below hC4 (below_drew (Below.refl _ _))) hc4 ho).mono ?_; rintro e w6 ⟨v6, rfl, hR6, hb6⟩; have hz6 := blk_below (w := w4.drew) hz4 hb6; have hB6 := below_step (below_drew hB4) hb6; obtain ⟨A6, c6, hv⟩ := Kd.R_slice hR6; subst hv; clear yz0 yz1 yz2 yz3 yz4 yz5 yz6 yz7 yf0 yf1 yf2 yf3 yf4 yf5 yf6 yf7; obtain ⟨yz0, yz1, yz2, yz3, yz4, yz5, yz6, yz7, yf0, yf1, yf2, yf3, yf4, yf5, yf6, yf7⟩ := g8 hz6)
  all_goals
    go_wp2
    refine bodyPost_ret (results_ctt rfl _ _ w.heap.size 44 _ (0, 0) _ rfl (set8 hz6) Tryz.underlying44 rfl (by kernel_rfl)) rfl ?_
    have hlt : w.heap.size < w4.heap.size := blk_lt hz4
    exact ⟨_, rfl, Kd.R_mono (Kd.R_lower (set8_R (Kd.R_bound hR6) (fun k_ h => by have h5 : w4.heap.size ≤ k_ := h.2.1; omega)) (Nat.le_of_lt hlt)) (fun _ _ => trivial), set8_B hB6 (Nat.le_refl _)⟩
theorem rd5_no (k : Nat) (A : Option Addr) (c : Nat) (l r o : List Int) (t : Int) (b : List Int) (o2 : List Int) (ho2 : impl_own.f b = some o2) (w : World) (hV : ∀ w0, Below w.heap.size w w0 → Kd.V (Kd.int .u8) 5 w0 w0.heap.size (fun k_ => k_ < w.heap.size) (.slice A l.length c) l) (hf : bsoncore_ReadBinary.f l = some (t, b, r, false)) (ho : impl_own.f r = some o) :
    Calls Tryz.prog 34 #[.int .i64 5, .slice A l.length c] w (NoPost w o) := by
  have B0 : ∀ o : Obj, Below w.heap.size w (w.alloc o) := fun o => below_alloc (Below.refl _ _) o
  go_enter Tryz.func34, Tryz.ntmps34
  go_wp2_with (first | (go_at_call 75; (refine (bsoncore_ReadBinary.calls (fun k_ => k_ < w.heap.size) A c l t b r false _ (hV _ (B0 _)) hf).mono ?_; rintro e w1 ⟨vb, v1, rfl, hvb, hv1, hb1⟩; have hz1 := blk_below (blk_new w _) hb1; have hB1 := below_step (B0 _) hb1; replace hv1 : Kd.V (Kd.int .u8) 5 w1 _ (fun k_ => k_ < w.heap.size ∨ w.heap.size + (0 + 1) ≤ k_) v1 r := Kd.V_mono hv1 (fun k_ h => by have h := h.1; simpa using h); replace hvb : Kd.V (Kd.int .u8) 5 w1 w.heap.size (fun k_ => k_ < w.heap.size ∨ w.heap.size + (0 + 1) ≤ k_) vb b := Kd.V_mono (Kd.R_V hvb) (fun k_ h => Or.inr (by simpa using h)); obtain ⟨Ab, cb, hv⟩ := Kd.V_slice hvb; subst hv; obtain ⟨pz0, pz1, pz2, pz3, pz4, pz5, pz6, pz7, pf0, pf1, pf2, pf3, pf4, pf5, pf6, pf7⟩ := g8 hz1)) | (go_at_call 53; (refine (impl_own.calls Ab cb b o2 _ (Kd.V_reads' (vf hvb)).2.2 (Kd.V_reads' hvb).2.1 ho2).mono ?_; rintro e w3 ⟨v3, rfl, hR3, hb3⟩; obtain ⟨hz3, hs3⟩ := st_ (blk_put hz1 6 _ rfl) hb3; have hB3 := below_step (below_set (j := 6) hB1 (Nat.le_refl _)) hb3; have hv3 := Kd.V_below (vf hv1) hb3; obtain ⟨A3, c3, hv⟩ := Kd.R_slice hR3; subst hv; clear pz0 pz1 pz2 pz3 pz4 pz5 pz6 pz7 pf0 pf1 pf2 pf3 pf4 pf5 pf6 pf7; obtain ⟨pz0, pz1, pz2, pz3, pz4, pz5, pz6, pz7, pf0, pf1, pf2, pf3, pf4, pf5, pf6, pf7⟩ := g8 hz3)))
  refine gen_ (α := Unit) (P := Code.wp _ _ _ _) (X := fun _ => True) (set8 (blk_put (blk_put hz3 3 _ rfl) 6 _ rfl)) (set8_B (below_set (j := 6) (below_set (j := 3) hB3 (Nat.le_refl _)) (Nat.le_refl _)) (Nat.le_refl _)) (set8_V (vf (vf hv3)) (fun k_ h => by omega)) trivial ?_
  rintro w4 hz4 hB4 hv4 hX
  obtain ⟨A1, c1, hv⟩ := Kd.V_slice hv4; subst hv; obtain ⟨_, hc4, hC4⟩ := Kd.V_reads' hv4; clear hv4 hz1 hB1 hv1 hb1 hV hz3 hB3 hv3 hb3 hR3 hs3 hvb pz0 pz1 pz2 pz3 pz4 pz5 pz6 pz7 pf0 pf1 pf2 pf3 pf4 pf5 pf6 pf7; obtain ⟨yz0, yz1, yz2, yz3, yz4, yz5, yz6, yz7, yf0, yf1, yf2, yf3, yf4, yf5, yf6, yf7⟩ := g8 hz4
  go_region_with (go_at_call 53; refine (impl_own.calls A1 c1 r o _ (Kd.C_below hC4 (below_drew (Below.refl _ _))) hc4 ho).mono ?_; rintro e w6 ⟨v6, rfl, hR6, hb6⟩; have hz6 := blk_below (w := w4.drew) hz4 hb6; have hB6 := below_step (below_drew hB4) hb6; obtain ⟨A6, c6, hv⟩ := Kd.R_slice hR6; subst hv; clear yz0 yz1 yz2 yz3 yz4 yz5 yz6 yz7 yf0 yf1 yf2 yf3 yf4 yf5 yf6 yf7; obtain ⟨yz0, yz1, yz2, yz3, yz4, yz5, yz6, yz7, yf0, yf1, yf2, yf3, yf4, yf5, yf6, yf7⟩ := g8 hz6)
  all_goals
    go_wp2
    refine bodyPost_ret (results_ctt rfl _ _ w.heap.size 44 _ (0, 0) _ rfl (set8 hz6) Tryz.underlying44 rfl (by kernel_rfl)) rfl ?_
    have hlt : w.heap.size < w4.heap.size := blk_lt hz4
    exact ⟨_, rfl, Kd.R_mono (Kd.R_lower (set8_R (Kd.R_bound hR6) (fun k_ h => by have h5 : w4.heap.size ≤ k_ := h.2.1; omega)) (Nat.le_of_lt hlt)) (fun _ _ => trivial), set8_B hB6 (Nat.le_refl _)⟩
theorem rd8_no (k : Nat) (A : Option Addr) (c : Nat) (l r o : List Int) (q : Bool) (n : Int) (hq : impl_one.f q = some n) (w : World) (hV : ∀ w0, Below w.heap.size w w0 → Kd.V (Kd.int .u8) 5 w0 w0.heap.size (fun k_ => k_ < w.heap.size) (.slice A l.length c) l) (hf : bsoncore_ReadBoolean.f l = some (q, r, false)) (ho : impl_own.f r = some o) :
    Calls Tryz.prog 34 #[.int .i64 8, .slice A l.length c] w (NoPost w o) := by
  have B0 : ∀ o : Obj, Below w.heap.size w (w.alloc o) := fun o => below_alloc (Below.refl _ _) o
  go_enter Tryz.func34, Tryz.ntmps34
  go_wp2_with (first | (go_at_call 77; (refine (bsoncore_ReadBoolean.calls (fun k_ => k_ < w.heap.size) A c l q r false _ (hV _ (B0 _)) hf).mono ?_; rintro e w1 ⟨v1, rfl, hv1, hb1⟩; have hz1 := blk_below (blk_new w _) hb1; have hB1 := below_step (B0 _) hb1; replace hv1 : Kd.V (Kd.int .u8) 5 w1 _ (fun k_ => k_ < w.heap.size ∨ w.heap.size + (0 + 1) ≤ k_) v1 r := Kd.V_mono hv1 (fun k_ h => by simpa using h); obtain ⟨pz0, pz1, pz2, pz3, pz4, pz5, pz6, pz7, pf0, pf1, pf2, pf3, pf4, pf5, pf6, pf7⟩ := g8 hz1)) | (go_at_call 78; (refine (impl_one.calls q n _ hq).mono ?_; rintro e w3 ⟨rfl, hD3⟩; have hb3 := hD3.below; have hz3 := blk_below hz1 hb3; have hB3 := below_step hB1 hb3; have hv3 := Kd.V_below hv1 hb3; clear pz0 pz1 pz2 pz3 pz4 pz5 pz6 pz7 pf0 pf1 pf2 pf3 pf4 pf5 pf6 pf7; obtain ⟨pz0, pz1, pz2, pz3, pz4, pz5, pz6, pz7, pf0, pf1, pf2, pf3, pf4, pf5, pf6, pf7⟩ := g8 hz3)))
  refine gen_ (α := Unit) (P := Code.wp _ _ _ _) (X := fun _ => True) (set8 (blk_put hz3 3 _ rfl)) (set8_B (below_set (j := 3) hB3 (Nat.le_refl _)) (Nat.le_refl _)) (set8_V (vf hv3) (fun k_ h => by omega)) trivial ?_
  rintro w4 hz4 hB4 hv4 hX
  obtain ⟨A1, c1, hv⟩ := Kd.V_slice hv4; subst hv; obtain ⟨_, hc4, hC4⟩ := Kd.V_reads' hv4; clear hv4 hz1 hB1 hv1 hb1 hV hz3 hB3 hv3 hb3 hD3 pz0 pz1 pz2 pz3 pz4 pz5 pz6 pz7 pf0 pf1 pf2 pf3 pf4 pf5 pf6 pf7; obtain ⟨yz0, yz1, yz2, yz3, yz4, yz5, yz6, yz7, yf0, yf1, yf2, yf3, yf4, yf5, yf6, yf7⟩ := g8 hz4
  go_region_with (go_at_call 53; refine (impl_own.calls A1 c1 r o _ (Kd.C_below hC4 (below_drew (Below.refl _ _))) hc4 ho).mono ?_; rintro e w6 ⟨v6, rfl, hR6, hb6⟩; have hz6 := blk_below (w := w4.drew) hz4 hb6; have hB6 := below_step (below_drew hB4) hb6; obtain ⟨A6, c6, hv⟩ := Kd.R_slice hR6; subst hv; clear yz0 yz1 yz2 yz3 yz4 yz5 yz6 yz7 yf0 yf1 yf2 yf3 yf4 yf5 yf6 yf7; obtain ⟨yz0, yz1, yz2, yz3, yz4, yz5, yz6, yz7, yf0, yf1, yf2, yf3, yf4, yf5, yf6, yf7⟩ := g8 hz6)
  all_goals
    go_wp2
    refine bodyPost_ret (results_ctt rfl _ _ w.heap.size 44 _ (0, 0) _ rfl (set8 hz6) Tryz.underlying44 rfl (by kernel_rfl)) rfl ?_
    have hlt : w.heap.size < w4.heap.size := blk_lt hz4
    exact ⟨_, rfl, Kd.R_mono (Kd.R_lower (set8_R (Kd.R_bound hR6) (fun k_ h => by have h5 : w4.heap.size ≤ k_ := h.2.1; omega)) (Nat.le_of_lt hlt)) (fun _ _ => trivial), set8_B hB6 (Nat.le_refl _)⟩
theorem rd9_no (k : Nat) (A : Option Addr) (c : Nat) (l r o : List Int) (n : Int) (w : World) (hV : ∀ w0, Below w.heap.size w w0 → Kd.V (Kd.int .u8) 5 w0 w0.heap.size (fun k_ => k_ < w.heap.size) (.slice A l.length c) l) (hf : bsoncore_ReadDateTime.f l = some (n, r, false)) (ho : impl_own.f r = some o) :
    Calls Tryz.prog 34 #[.int .i64 9, .slice A l.length c] w (NoPost w o) := by
  have B0 : ∀ o : Obj, Below w.heap.size w (w.alloc o) := fun o => below_alloc (Below.refl _ _) o
  go_enter Tryz.func34, Tryz.ntmps34
  go_wp2_with (first | (go_at_call 79; (refine (bsoncore_ReadDateTime.calls (fun k_ => k_ < w.heap.size) A c l n r false _ (hV _ (B0 _)) hf).mono ?_; rintro e w1 ⟨v1, rfl, hv1, hb1⟩; have hz1 := blk_below (blk_new w _) hb1; have hB1 := below_step (B0 _) hb1; replace hv1 : Kd.V (Kd.int .u8) 5 w1 _ (fun k_ => k_ < w.heap.size ∨ w.heap.size + (0 + 1) ≤ k_) v1 r := Kd.V_mono hv1 (fun k_ h => by simpa using h); obtain ⟨pz0, pz1, pz2, pz3, pz4, pz5, pz6, pz7, pf0, pf1, pf2, pf3, pf4, pf5, pf6, pf7⟩ := g8 hz1)))
  refine gen_ (α := Unit) (P := Code.wp _ _ _ _) (X := fun _ => True) (set8 (blk_put hz1 3 _ rfl)) (set8_B (below_set (j := 3) hB1 (Nat.le_refl _)) (Nat.le_refl _)) (set8_V (vf hv1) (fun k_ h => by omega)) trivial ?_
  rintro w4 hz4 hB4 hv4 hX
  obtain ⟨A1, c1, hv⟩ := Kd.V_slice hv4; subst hv; obtain ⟨_, hc4, hC4⟩ := Kd.V_reads' hv4; clear hv4 hz1 hB1 hv1 hb1 hV pz0 pz1 pz2 pz3 pz4 pz5 pz6 pz7 pf0 pf1 pf2 pf3 pf4 pf5 pf6 pf7; obtain ⟨yz0, yz1, yz2, yz3, yz4, yz5, yz6, yz7, yf0, yf1, yf2, yf3, yf4, yf5, yf6, yf7⟩ := g8 hz4
  go_region_with (go_at_call 53; refine (impl_own.calls A1 c1 r o _ (Kd.C_below hC4 (below_drew (Below.refl _ _))) hc4 ho).mono ?_; rintro e w6 ⟨v6, rfl, hR6, hb6⟩; have hz6 := blk_below (w := w4.drew) hz4 hb6; have hB6 := below_step (below_drew hB4) hb6; obtain ⟨A6, c6, hv⟩ := Kd.R_slice hR6; subst hv; clear yz0 yz1 yz2 yz3 yz4 yz5 yz6 yz7 yf0 yf1 yf2 yf3 yf4 yf5 yf6 yf7; obtain ⟨yz0, yz1, yz2, yz3, yz4, yz5, yz6, yz7, yf0, yf1, yf2, yf3, yf4, yf5, yf6, yf7⟩ := g8 hz6)
  all_goals
    go_wp2
    refine bodyPost_ret (results_ctt rfl _ _ w.heap.size 44 _ (0, 0) _ rfl (set8 hz6) Tryz.underlying44 rfl (by kernel_rfl)) rfl ?_
    have hlt : w.heap.size < w4.heap.size := blk_lt hz4
    exact ⟨_, rfl, Kd.R_mono (Kd.R_lower (set8_R (Kd.R_bound hR6) (fun k_ h => by have h5 : w4.heap.size ≤ k_ := h.2.1; omega)) (Nat.le_of_lt hlt)) (fun _ _ => trivial), set8_B hB6 (Nat.le_refl _)⟩
theorem rd11_no (k : Nat) (A : Option Addr) (c : Nat) (l r o : List Int) (s : ByteArray) (s2 : ByteArray) (w : World) (hV : ∀ w0, Below w.heap.size w w0 → Kd.V (Kd.int .u8) 5 w0 w0.heap.size (fun k_ => k_ < w.heap.size) (.slice A l.length c) l) (hf : bsoncore_ReadRegex.f l = some (s, s2, r, false)) (ho : impl_own.f r = some o) :
    Calls Tryz.prog 34 #[.int .i64 11, .slice A l.length c] w (NoPost w o) := by
  have B0 : ∀ o : Obj, Below w.heap.size w (w.alloc o) := fun o => below_alloc (Below.refl _ _) o
  go_enter Tryz.func34, Tryz.ntmps34
  go_wp2_with (first | (go_at_call 80; (refine (bsoncore_ReadRegex.calls (fun k_ => k_ < w.heap.size) A c l s s2 r false _ (hV _ (B0 _)) hf).mono ?_; rintro e w1 ⟨v1, rfl, hv1, hb1⟩; have hz1 := blk_below (blk_new w _) hb1; have hB1 := below_step (B0 _) hb1; replace hv1 : Kd.V (Kd.int .u8) 5 w1 _ (fun k_ => k_ < w.heap.size ∨ w.heap.size + (0 + 1) ≤ k_) v1 r := Kd.V_mono hv1 (fun k_ h => by simpa using h); obtain ⟨pz0, pz1, pz2, pz3, pz4, pz5, pz6, pz7, pf0, pf1, pf2, pf3, pf4, pf5, pf6, pf7⟩ := g8 hz1)))
  refine gen_ (α := Unit) (P := Code.wp _ _ _ _) (X := fun _ => True) (set8 (blk_put (blk_put hz1 1 _ rfl) 2 _ rfl)) (set8_B (below_set (j := 2) (below_set (j := 1) hB1 (Nat.le_refl _)) (Nat.le_refl _)) (Nat.le_refl _)) (set8_V (vf (vf hv1)) (fun k_ h => by omega)) trivial ?_
  rintro w4 hz4 hB4 hv4 hX
  obtain ⟨A1, c1, hv⟩ := Kd.V_slice hv4; subst hv; obtain ⟨_, hc4, hC4⟩ := Kd.V_reads' hv4; clear hv4 hz1 hB1 hv1 hb1 hV pz0 pz1 pz2 pz3 pz4 pz5 pz6 pz7 pf0 pf1 pf2 pf3 pf4 pf5 pf6 pf7; obtain ⟨yz0, yz1, yz2, yz3, yz4, yz5, yz6, yz7, yf0, yf1, yf2, yf3, yf4, yf5, yf6, yf7⟩ := g8 hz4
  go_region_with (go_at_call 53; refine (impl_own.calls A1 c1 r o _ (Kd.C_below hC4 (below_drew (Below.refl _ _))) hc4 ho).mono ?_; rintro e w6 ⟨v6, rfl, hR6, hb6⟩; have hz6 := blk_below (w := w4.drew) hz4 hb6; have hB6 := below_step (below_drew hB4) hb6; obtain ⟨A6, c6, hv⟩ := Kd.R_slice hR6; subst hv; clear yz0 yz1 yz2 yz3 yz4 yz5 yz6 yz7 yf0 yf1 yf2 yf3 yf4 yf5 yf6 yf7; obtain ⟨yz0, yz1, yz2, yz3, yz4, yz5, yz6, yz7, yf0, yf1, yf2, yf3, yf4, yf5, yf6, yf7⟩ := g8 hz6)
  all_goals
    go_wp2
    refine bodyPost_ret (results_ctt rfl _ _ w.heap.size 44 _ (0, 0) _ rfl (set8 hz6) Tryz.underlying44 rfl (by kernel_rfl)) rfl ?_
    have hlt : w.heap.size < w4.heap.size := blk_lt hz4
    exact ⟨_, rfl, Kd.R_mono (Kd.R_lower (set8_R (Kd.R_bound hR6) (fun k_ h => by have h5 : w4.heap.size ≤ k_ := h.2.1; omega)) (Nat.le_of_lt hlt)) (fun _ _ => trivial), set8_B hB6 (Nat.le_refl _)⟩
theorem rd13_no (k : Nat) (A : Option Addr) (c : Nat) (l r o : List Int) (s : ByteArray) (w : World) (hV : ∀ w0, Below w.heap.size w w0 → Kd.V (Kd.int .u8) 5 w0 w0.heap.size (fun k_ => k_ < w.heap.size) (.slice A l.length c) l) (hf : bsoncore_ReadJavaScript.f k l = some (s, r, false)) (ho : impl_own.f r = some o) :
    Calls Tryz.prog 34 #[.int .i64 13, .slice A l.length c] w (NoPost w o) := by
  have B0 : ∀ o : Obj, Below w.heap.size w (w.alloc o) := fun o => below_alloc (Below.refl _ _) o
  go_enter Tryz.func34, Tryz.ntmps34
  go_wp2_with (first | (go_at_call 82; (refine (bsoncore_ReadJavaScript.calls k (fun k_ => k_ < w.heap.size) A c l s r false _ (hV _ (B0 _)) hf).mono ?_; rintro e w1 ⟨v1, rfl, hv1, hb1⟩; have hz1 := blk_below (blk_new w _) hb1; have hB1 := below_step (B0 _) hb1; replace hv1 : Kd.V (Kd.int .u8) 5 w1 _ (fun k_ => k_ < w.heap.size ∨ w.heap.size + (0 + 1) ≤ k_) v1 r := Kd.V_mono hv1 (fun k_ h => by simpa using h); obtain ⟨pz0, pz1, pz2, pz3, pz4, pz5, pz6, pz7, pf0, pf1, pf2, pf3, pf4, pf5, pf6, pf7⟩ := g8 hz1)))
  refine gen_ (α := Unit) (P := Code.wp _ _ _ _) (X := fun _ => True) (set8 (blk_put hz1 1 _ rfl)) (set8_B (below_set (j := 1) hB1 (Nat.le_refl _)) (Nat.le_refl _)) (set8_V (vf hv1) (fun k_ h => by omega)) trivial ?_
  rintro w4 hz4 hB4 hv4 hX
  obtain ⟨A1, c1, hv⟩ := Kd.V_slice hv4; subst hv; obtain ⟨_, hc4, hC4⟩ := Kd.V_reads' hv4; clear hv4 hz1 hB1 hv1 hb1 hV pz0 pz1 pz2 pz3 pz4 pz5 pz6 pz7 pf0 pf1 pf2 pf3 pf4 pf5 pf6 pf7; obtain ⟨yz0, yz1, yz2, yz3, yz4, yz5, yz6, yz7, yf0, yf1, yf2, yf3, yf4, yf5, yf6, yf7⟩ := g8 hz4
  go_region_with (go_at_call 53; refine (impl_own.calls A1 c1 r o _ (Kd.C_below hC4 (below_drew (Below.refl _ _))) hc4 ho).mono ?_; rintro e w6 ⟨v6, rfl, hR6, hb6⟩; have hz6 := blk_below (w := w4.drew) hz4 hb6; have hB6 := below_step (below_drew hB4) hb6; obtain ⟨A6, c6, hv⟩ := Kd.R_slice hR6; subst hv; clear yz0 yz1 yz2 yz3 yz4 yz5 yz6 yz7 yf0 yf1 yf2 yf3 yf4 yf5 yf6 yf7; obtain ⟨yz0, yz1, yz2, yz3, yz4, yz5, yz6, yz7, yf0, yf1, yf2, yf3, yf4, yf5, yf6, yf7⟩ := g8 hz6)
  all_goals
    go_wp2
    refine bodyPost_ret (results_ctt rfl _ _ w.heap.size 44 _ (0, 0) _ rfl (set8 hz6) Tryz.underlying44 rfl (by kernel_rfl)) rfl ?_
    have hlt : w.heap.size < w4.heap.size := blk_lt hz4
    exact ⟨_, rfl, Kd.R_mono (Kd.R_lower (set8_R (Kd.R_bound hR6) (fun k_ h => by have h5 : w4.heap.size ≤ k_ := h.2.1; omega)) (Nat.le_of_lt hlt)) (fun _ _ => trivial), set8_B hB6 (Nat.le_refl _)⟩
theorem rd14_no (k : Nat) (A : Option Addr) (c : Nat) (l r o : List Int) (s : ByteArray) (w : World) (hV : ∀ w0, Below w.heap.size w w0 → Kd.V (Kd.int .u8) 5 w0 w0.heap.size (fun k_ => k_ < w.heap.size) (.slice A l.length c) l) (hf : bsoncore_ReadSymbol.f k l = some (s, r, false)) (ho : impl_own.f r = some o) :
    Calls Tryz.prog 34 #[.int .i64 14, .slice A l.length c] w (NoPost w o) := by
  have B0 : ∀ o : Obj, Below w.heap.size w (w.alloc o) := fun o => below_alloc (Below.refl _ _) o
  go_enter Tryz.func34, Tryz.ntmps34
  go_wp2_with (first | (go_at_call 83; (refine (bsoncore_ReadSymbol.calls k (fun k_ => k_ < w.heap.size) A c l s r false _ (hV _ (B0 _)) hf).mono ?_; rintro e w1 ⟨v1, rfl, hv1, hb1⟩; have hz1 := blk_below (blk_new w _) hb1; have hB1 := below_step (B0 _) hb1; replace hv1 : Kd.V (Kd.int .u8) 5 w1 _ (fun k_ => k_ < w.heap.size ∨ w.heap.size + (0 + 1) ≤ k_) v1 r := Kd.V_mono hv1 (fun k_ h => by simpa using h); obtain ⟨pz0, pz1, pz2, pz3, pz4, pz5, pz6, pz7, pf0, pf1, pf2, pf3, pf4, pf5, pf6, pf7⟩ := g8 hz1)))
  refine gen_ (α := Unit) (P := Code.wp _ _ _ _) (X := fun _ => True) (set8 (blk_put hz1 1 _ rfl)) (set8_B (below_set (j := 1) hB1 (Nat.le_refl _)) (Nat.le_refl _)) (set8_V (vf hv1) (fun k_ h => by omega)) trivial ?_
  rintro w4 hz4 hB4 hv4 hX
  obtain ⟨A1, c1, hv⟩ := Kd.V_slice hv4; subst hv; obtain ⟨_, hc4, hC4⟩ := Kd.V_reads' hv4; clear hv4 hz1 hB1 hv1 hb1 hV pz0 pz1 pz2 pz3 pz4 pz5 pz6 pz7 pf0 pf1 pf2 pf3 pf4 pf5 pf6 pf7; obtain ⟨yz0, yz1, yz2, yz3, yz4, yz5, yz6, yz7, yf0, yf1, yf2, yf3, yf4, yf5, yf6, yf7⟩ := g8 hz4
  go_region_with (go_at_call 53; refine (impl_own.calls A1 c1 r o _ (Kd.C_below hC4 (below_drew (Below.refl _ _))) hc4 ho).mono ?_; rintro e w6 ⟨v6, rfl, hR6, hb6⟩; have hz6 := blk_below (w := w4.drew) hz4 hb6; have hB6 := below_step (below_drew hB4) hb6; obtain ⟨A6, c6, hv⟩ := Kd.R_slice hR6; subst hv; clear yz0 yz1 yz2 yz3 yz4 yz5 yz6 yz7 yf0 yf1 yf2 yf3 yf4 yf5 yf6 yf7; obtain ⟨yz0, yz1, yz2, yz3, yz4, yz5, yz6, yz7, yf0, yf1, yf2, yf3, yf4, yf5, yf6, yf7⟩ := g8 hz6)
  all_goals
    go_wp2
    refine bodyPost_ret (results_ctt rfl _ _ w.heap.size 44 _ (0, 0) _ rfl (set8 hz6) Tryz.underlying44 rfl (by kernel_rfl)) rfl ?_
    have hlt : w.heap.size < w4.heap.size := blk_lt hz4
    exact ⟨_, rfl, Kd.R_mono (Kd.R_lower (set8_R (Kd.R_bound hR6) (fun k_ h => by have h5 : w4.heap.size ≤ k_ := h.2.1; omega)) (Nat.le_of_lt hlt)) (fun _ _ => trivial), set8_B hB6 (Nat.le_refl _)⟩
theorem rd15_no (k : Nat) (A : Option Addr) (c : Nat) (l r o : List Int) (s : ByteArray) (b : List Int) (o2 : List Int) (ho2 : impl_own.f b = some o2) (w : World) (hV : ∀ w0, Below w.heap.size w w0 → Kd.V (Kd.int .u8) 5 w0 w0.heap.size (fun k_ => k_ < w.heap.size) (.slice A l.length c) l) (hf : bsoncore_ReadCodeWithScope.f k l = some (s, b, r, false)) (ho : impl_own.f r = some o) :
    Calls Tryz.prog 34 #[.int .i64 15, .slice A l.length c] w (NoPost w o) := by
  have B0 : ∀ o : Obj, Below w.heap.size w (w.alloc o) := fun o => below_alloc (Below.refl _ _) o
  go_enter Tryz.func34, Tryz.ntmps34
  go_wp2_with (first | (go_at_call 84; (refine (bsoncore_ReadCodeWithScope.calls k (fun k_ => k_ < w.heap.size) A c l s b r false _ (hV _ (B0 _)) hf).mono ?_; rintro e w1 ⟨vb, v1, rfl, hvb, hv1, hb1⟩; have hz1 := blk_below (blk_new w _) hb1; have hB1 := below_step (B0 _) hb1; replace hv1 : Kd.V (Kd.int .u8) 5 w1 _ (fun k_ => k_ < w.heap.size ∨ w.heap.size + (0 + 1) ≤ k_) v1 r := Kd.V_mono hv1 (fun k_ h => by have h := h.1; simpa using h); replace hvb : Kd.V (Kd.int .u8) 5 w1 w.heap.size (fun k_ => k_ < w.heap.size ∨ w.heap.size + (0 + 1) ≤ k_) vb b := Kd.V_mono (Kd.R_V hvb) (fun k_ h => Or.inr (by simpa using h)); obtain ⟨Ab, cb, hv⟩ := Kd.V_slice hvb; subst hv; obtain ⟨pz0, pz1, pz2, pz3, pz4, pz5, pz6, pz7, pf0, pf1, pf2, pf3, pf4, pf5, pf6, pf7⟩ := g8 hz1)) | (go_at_call 53; (refine (impl_own.calls Ab cb b o2 _ (Kd.V_reads' (vf (vf hvb))).2.2 (Kd.V_reads' hvb).2.1 ho2).mono ?_; rintro e w3 ⟨v3, rfl, hR3, hb3⟩; obtain ⟨hz3, hs3⟩ := st_ (blk_put (blk_put hz1 1 _ rfl) 6 _ rfl) hb3; have hB3 := below_step (below_set (j := 6) (below_set (j := 1) hB1 (Nat.le_refl _)) (Nat.le_refl _)) hb3; have hv3 := Kd.V_below (vf (vf hv1)) hb3; obtain ⟨A3, c3, hv⟩ := Kd.R_slice hR3; subst hv; clear pz0 pz1 pz2 pz3 pz4 pz5 pz6 pz7 pf0 pf1 pf2 pf3 pf4 pf5 pf6 pf7; obtain ⟨pz0, pz1, pz2, pz3, pz4, pz5, pz6, pz7, pf0, pf1, pf2, pf3, pf4, pf5, pf6, pf7⟩ := g8 hz3)))
  refine gen_ (α := Unit) (P := Code.wp _ _ _ _) (X := fun _ => True) (set8 (blk_put hz3 6 _ rfl)) (set8_B (below_set (j := 6) hB3 (Nat.le_refl _)) (Nat.le_refl _)) (set8_V (vf hv3) (fun k_ h => by omega)) trivial ?_
  rintro w4 hz4 hB4 hv4 hX
  obtain ⟨A1, c1, hv⟩ := Kd.V_slice hv4; subst hv; obtain ⟨_, hc4, hC4⟩ := Kd.V_reads' hv4; clear hv4 hz1 hB1 hv1 hb1 hV hz3 hB3 hv3 hb3 hR3 hs3 hvb pz0 pz1 pz2 pz3 pz4 pz5 pz6 pz7 pf0 pf1 pf2 pf3 pf4 pf5 pf6 pf7; obtain ⟨yz0, yz1, yz2, yz3, yz4, yz5, yz6, yz7, yf0, yf1, yf2, yf3, yf4, yf5, yf6, yf7⟩ := g8 hz4
  go_region_with (go_at_call 53; refine (impl_own.calls A1 c1 r o _ (Kd.C_below hC4 (below_drew (Below.refl _ _))) hc4 ho).mono ?_; rintro e w6 ⟨v6, rfl, hR6, hb6⟩; have hz6 := blk_below (w := w4.drew) hz4 hb6; have hB6 := below_step (below_drew hB4) hb6; obtain ⟨A6, c6, hv⟩ := Kd.R_slice hR6; subst hv; clear yz0 yz1 yz2 yz3 yz4 yz5 yz6 yz7 yf0 yf1 yf2 yf3 yf4 yf5 yf6 yf7; obtain ⟨yz0, yz1, yz2, yz3, yz4, yz5, yz6, yz7, yf0, yf1, yf2, yf3, yf4, yf5, yf6, yf7⟩ := g8 hz6)
  all_goals
    go_wp2
    refine bodyPost_ret (results_ctt rfl _ _ w.heap.size 44 _ (0, 0) _ rfl (set8 hz6) Tryz.underlying44 rfl (by kernel_rfl)) rfl ?_
    have hlt : w.heap.size < w4.heap.size := blk_lt hz4
    exact ⟨_, rfl, Kd.R_mono (Kd.R_lower (set8_R (Kd.R_bound hR6) (fun k_ h => by have h5 : w4.heap.size ≤ k_ := h.2.1; omega)) (Nat.le_of_lt hlt)) (fun _ _ => trivial), set8_B hB6 (Nat.le_refl _)⟩
theorem rd16_no (k : Nat) (A : Option Addr) (c : Nat) (l r o : List Int) (n : Int) (w : World) (hV : ∀ w0, Below w.heap.size w w0 → Kd.V (Kd.int .u8) 5 w0 w0.heap.size (fun k_ => k_ < w.heap.size) (.slice A l.length c) l) (hf : bsoncore_ReadInt32.f l = some (n, r, false)) (ho : impl_own.f r = some o) :
    Calls Tryz.prog 34 #[.int .i64 16, .slice A l.length c] w (NoPost w o) := by
  have B0 : ∀ o : Obj, Below w.heap.size w (w.alloc o) := fun o => below_alloc (Below.refl _ _) o
  go_enter Tryz.func34, Tryz.ntmps34
  go_wp2_with (first | (go_at_call 85; (refine (bsoncore_ReadInt32.calls (fun k_ => k_ < w.heap.size) A c l n r false _ (hV _ (B0 _)) hf).mono ?_; rintro e w1 ⟨v1, rfl, hv1, hb1⟩; have hz1 := blk_below (blk_new w _) hb1; have hB1 := below_step (B0 _) hb1; replace hv1 : Kd.V (Kd.int .u8) 5 w1 _ (fun k_ => k_ < w.heap.size ∨ w.heap.size + (0 + 1) ≤ k_) v1 r := Kd.V_mono hv1 (fun k_ h => by simpa using h); obtain ⟨pz0, pz1, pz2, pz3, pz4, pz5, pz6, pz7, pf0, pf1, pf2, pf3, pf4, pf5, pf6, pf7⟩ := g8 hz1)))
  refine gen_ (α := Unit) (P := Code.wp _ _ _ _) (X := fun _ => True) (set8 (blk_put hz1 3 _ rfl)) (set8_B (below_set (j := 3) hB1 (Nat.le_refl _)) (Nat.le_refl _)) (set8_V (vf hv1) (fun k_ h => by omega)) trivial ?_
  rintro w4 hz4 hB4 hv4 hX
  obtain ⟨A1, c1, hv⟩ := Kd.V_slice hv4; subst hv; obtain ⟨_, hc4, hC4⟩ := Kd.V_reads' hv4; clear hv4 hz1 hB1 hv1 hb1 hV pz0 pz1 pz2 pz3 pz4 pz5 pz6 pz7 pf0 pf1 pf2 pf3 pf4 pf5 pf6 pf7; obtain ⟨yz0, yz1, yz2, yz3, yz4, yz5, yz6, yz7, yf0, yf1, yf2, yf3, yf4, yf5, yf6, yf7⟩ := g8 hz4
  go_region_with (go_at_call 53; refine (impl_own.calls A1 c1 r o _ (Kd.C_below hC4 (below_drew (Below.refl _ _))) hc4 ho).mono ?_; rintro e w6 ⟨v6, rfl, hR6, hb6⟩; have hz6 := blk_below (w := w4.drew) hz4 hb6; have hB6 := below_step (below_drew hB4) hb6; obtain ⟨A6, c6, hv⟩ := Kd.R_slice hR6; subst hv; clear yz0 yz1 yz2 yz3 yz4 yz5 yz6 yz7 yf0 yf1 yf2 yf3 yf4 yf5 yf6 yf7; obtain ⟨yz0, yz1, yz2, yz3, yz4, yz5, yz6, yz7, yf0, yf1, yf2, yf3, yf4, yf5, yf6, yf7⟩ := g8 hz6)
  all_goals
    go_wp2
    refine bodyPost_ret (results_ctt rfl _ _ w.heap.size 44 _ (0, 0) _ rfl (set8 hz6) Tryz.underlying44 rfl (by kernel_rfl)) rfl ?_
    have hlt : w.heap.size < w4.heap.size := blk_lt hz4
    exact ⟨_, rfl, Kd.R_mono (Kd.R_lower (set8_R (Kd.R_bound hR6) (fun k_ h => by have h5 : w4.heap.size ≤ k_ := h.2.1; omega)) (Nat.le_of_lt hlt)) (fun _ _ => trivial), set8_B hB6 (Nat.le_refl _)⟩
theorem rd17_no (k : Nat) (A : Option Addr) (c : Nat) (l r o : List Int) (n : Int) (n2 : Int) (w : World) (hV : ∀ w0, Below w.heap.size w w0 → Kd.V (Kd.int .u8) 5 w0 w0.heap.size (fun k_ => k_ < w.heap.size) (.slice A l.length c) l) (hf : bsoncore_ReadTimestamp.f l = some (n, n2, r, false)) (ho : impl_own.f r = some o) :
    Calls Tryz.prog 34 #[.int .i64 17, .slice A l.length c] w (NoPost w o) := by
  have B0 : ∀ o : Obj, Below w.heap.size w (w.alloc o) := fun o => below_alloc (Below.refl _ _) o
  go_enter Tryz.func34, Tryz.ntmps34
  go_wp2_with (first | (go_at_call 86; (refine (bsoncore_ReadTimestamp.calls (fun k_ => k_ < w.heap.size) A c l n n2 r false _ (hV _ (B0 _)) hf).mono ?_; rintro e w1 ⟨v1, rfl, hv1, hb1⟩; have hz1 := blk_below (blk_new w _) hb1; have hB1 := below_step (B0 _) hb1; replace hv1 : Kd.V (Kd.int .u8) 5 w1 _ (fun k_ => k_ < w.heap.size ∨ w.heap.size + (0 + 1) ≤ k_) v1 r := Kd.V_mono hv1 (fun k_ h => by simpa using h); obtain ⟨pz0, pz1, pz2, pz3, pz4, pz5, pz6, pz7, pf0, pf1, pf2, pf3, pf4, pf5, pf6, pf7⟩ := g8 hz1)))
  refine gen_ (α := Unit) (P := Code.wp _ _ _ _) (X := fun _ => True) (set8 (blk_put hz1 4 _ rfl)) (set8_B (below_set (j := 4) hB1 (Nat.le_refl _)) (Nat.le_refl _)) (set8_V (vf hv1) (fun k_ h => by omega)) trivial ?_
  rintro w4 hz4 hB4 hv4 hX
  obtain ⟨A1, c1, hv⟩ := Kd.V_slice hv4; subst hv; obtain ⟨_, hc4, hC4⟩ := Kd.V_reads' hv4; clear hv4 hz1 hB1 hv1 hb1 hV pz0 pz1 pz2 pz3 pz4 pz5 pz6 pz7 pf0 pf1 pf2 pf3 pf4 pf5 pf6 pf7; obtain ⟨yz0, yz1, yz2, yz3, yz4, yz5, yz6, yz7, yf0, yf1, yf2, yf3, yf4, yf5, yf6, yf7⟩ := g8 hz4
  go_region_with (go_at_call 53; refine (impl_own.calls A1 c1 r o _ (Kd.C_below hC4 (below_drew (Below.refl _ _))) hc4 ho).mono ?_; rintro e w6 ⟨v6, rfl, hR6, hb6⟩; have hz6 := blk_below (w := w4.drew) hz4 hb6; have hB6 := below_step (below_drew hB4) hb6; obtain ⟨A6, c6, hv⟩ := Kd.R_slice hR6; subst hv; clear yz0 yz1 yz2 yz3 yz4 yz5 yz6 yz7 yf0 yf1 yf2 yf3 yf4 yf5 yf6 yf7; obtain ⟨yz0, yz1, yz2, yz3, yz4, yz5, yz6, yz7, yf0, yf1, yf2, yf3, yf4, yf5, yf6, yf7⟩ := g8 hz6)
  all_goals
    go_wp2
    refine bodyPost_ret (results_ctt rfl _ _ w.heap.size 44 _ (0, 0) _ rfl (set8 hz6) Tryz.underlying44 rfl (by kernel_rfl)) rfl ?_
    have hlt : w.heap.size < w4.heap.size := blk_lt hz4
    exact ⟨_, rfl, Kd.R_mono (Kd.R_lower (set8_R (Kd.R_bound hR6) (fun k_ h => by have h5 : w4.heap.size ≤ k_ := h.2.1; omega)) (Nat.le_of_lt hlt)) (fun _ _ => trivial), set8_B hB6 (Nat.le_refl _)⟩
theorem rd18_no (k : Nat) (A : Option Addr) (c : Nat) (l r o : List Int) (n : Int) (w : World) (hV : ∀ w0, Below w.heap.size w w0 → Kd.V (Kd.int .u8) 5 w0 w0.heap.size (fun k_ => k_ < w.heap.size) (.slice A l.length c) l) (hf : bsoncore_ReadInt64.f l = some (n, r, false)) (ho : impl_own.f r = some o) :
    Calls Tryz.prog 34 #[.int .i64 18, .slice A l.length c] w (NoPost w o) := by
  have B0 : ∀ o : Obj, Below w.heap.size w (w.alloc o) := fun o => below_alloc (Below.refl _ _) o
  go_enter Tryz.func34, Tryz.ntmps34
  go_wp2_with (first | (go_at_call 87; (refine (bsoncore_ReadInt64.calls (fun k_ => k_ < w.heap.size) A c l n r false _ (hV _ (B0 _)) hf).mono ?_; rintro e w1 ⟨v1, rfl, hv1, hb1⟩; have hz1 := blk_below (blk_new w _) hb1; have hB1 := below_step (B0 _) hb1; replace hv1 : Kd.V (Kd.int .u8) 5 w1 _ (fun k_ => k_ < w.heap.size ∨ w.heap.size + (0 + 1) ≤ k_) v1 r := Kd.V_mono hv1 (fun k_ h => by simpa using h); obtain ⟨pz0, pz1, pz2, pz3, pz4, pz5, pz6, pz7, pf0, pf1, pf2, pf3, pf4, pf5, pf6, pf7⟩ := g8 hz1)))
  refine gen_ (α := Unit) (P := Code.wp _ _ _ _) (X := fun _ => True) (set8 (blk_put hz1 3 _ rfl)) (set8_B (below_set (j := 3) hB1 (Nat.le_refl _)) (Nat.le_refl _)) (set8_V (vf hv1) (fun k_ h => by omega)) trivial ?_
  rintro w4 hz4 hB4 hv4 hX
  obtain ⟨A1, c1, hv⟩ := Kd.V_slice hv4; subst hv; obtain ⟨_, hc4, hC4⟩ := Kd.V_reads' hv4; clear hv4 hz1 hB1 hv1 hb1 hV pz0 pz1 pz2 pz3 pz4 pz5 pz6 pz7 pf0 pf1 pf2 pf3 pf4 pf5 pf6 pf7; obtain ⟨yz0, yz1, yz2, yz3, yz4, yz5, yz6, yz7, yf0, yf1, yf2, yf3, yf4, yf5, yf6, yf7⟩ := g8 hz4
  go_region_with (go_at_call 53; refine (impl_own.calls A1 c1 r o _ (Kd.C_below hC4 (below_drew (Below.refl _ _))) hc4 ho).mono ?_; rintro e w6 ⟨v6, rfl, hR6, hb6⟩; have hz6 := blk_below (w := w4.drew) hz4 hb6; have hB6 := below_step (below_drew hB4) hb6; obtain ⟨A6, c6, hv⟩ := Kd.R_slice hR6; subst hv; clear yz0 yz1 yz2 yz3 yz4 yz5 yz6 yz7 yf0 yf1 yf2 yf3 yf4 yf5 yf6 yf7; obtain ⟨yz0, yz1, yz2, yz3, yz4, yz5, yz6, yz7, yf0, yf1, yf2, yf3, yf4, yf5, yf6, yf7⟩ := g8 hz6)
  all_goals
    go_wp2
    refine bodyPost_ret (results_ctt rfl _ _ w.heap.size 44 _ (0, 0) _ rfl (set8 hz6) Tryz.underlying44 rfl (by kernel_rfl)) rfl ?_
    have hlt : w.heap.size < w4.heap.size := blk_lt hz4
    exact ⟨_, rfl, Kd.R_mono (Kd.R_lower (set8_R (Kd.R_bound hR6) (fun k_ h => by have h5 : w4.heap.size ≤ k_ := h.2.1; omega)) (Nat.le_of_lt hlt)) (fun _ _ => trivial), set8_B hB6 (Nat.le_refl _)⟩
theorem rd19_no (k : Nat) (A : Option Addr) (c : Nat) (l r o : List Int) (n : Int) (n2 : Int) (w : World) (hV : ∀ w0, Below w.heap.size w w0 → Kd.V (Kd.int .u8) 5 w0 w0.heap.size (fun k_ => k_ < w.heap.size) (.slice A l.length c) l) (hf : bsoncore_ReadDecimal128.f l = some (n, n2, r, false)) (ho : impl_own.f r = some o) :
    Calls Tryz.prog 34 #[.int .i64 19, .slice A l.length c] w (NoPost w o) := by
  have B0 : ∀ o : Obj, Below w.heap.size w (w.alloc o) := fun o => below_alloc (Below.refl _ _) o
  go_enter Tryz.func34, Tryz.ntmps34
  go_wp2_with (first | (go_at_call 88; (refine (bsoncore_ReadDecimal128.calls (fun k_ => k_ < w.heap.size) A c l n n2 r false _ (hV _ (B0 _)) hf).mono ?_; rintro e w1 ⟨v1, rfl, hv1, hb1⟩; have hz1 := blk_below (blk_new w _) hb1; have hB1 := below_step (B0 _) hb1; replace hv1 : Kd.V (Kd.int .u8) 5 w1 _ (fun k_ => k_ < w.heap.size ∨ w.heap.size + (0 + 1) ≤ k_) v1 r := Kd.V_mono hv1 (fun k_ h => by simpa using h); obtain ⟨pz0, pz1, pz2, pz3, pz4, pz5, pz6, pz7, pf0, pf1, pf2, pf3, pf4, pf5, pf6, pf7⟩ := g8 hz1)))
  refine gen_ (α := Unit) (P := Code.wp _ _ _ _) (X := fun _ => True) (set8 (blk_put (blk_put hz1 5 _ rfl) 4 _ rfl)) (set8_B (below_set (j := 4) (below_set (j := 5) hB1 (Nat.le_refl _)) (Nat.le_refl _)) (Nat.le_refl _)) (set8_V (vf (vf hv1)) (fun k_ h => by omega)) trivial ?_
  rintro w4 hz4 hB4 hv4 hX
  obtain ⟨A1, c1, hv⟩ := Kd.V_slice hv4; subst hv; obtain ⟨_, hc4, hC4⟩ := Kd.V_reads' hv4; clear hv4 hz1 hB1 hv1 hb1 hV pz0 pz1 pz2 pz3 pz4 pz5 pz6 pz7 pf0 pf1 pf2 pf3 pf4 pf5 pf6 pf7; obtain ⟨yz0, yz1, yz2, yz3, yz4, yz5, yz6, yz7, yf0, yf1, yf2, yf3, yf4, yf5, yf6, yf7⟩ := g8 hz4
  go_region_with (go_at_call 53; refine (impl_own.calls A1 c1 r o _ (Kd.C_below hC4 (below_drew (Below.refl _ _))) hc4 ho).mono ?_; rintro e w6 ⟨v6, rfl, hR6, hb6⟩; have hz6 := blk_below (w := w4.drew) hz4 hb6; have hB6 := below_step (below_drew hB4) hb6; obtain ⟨A6, c6, hv⟩ := Kd.R_slice hR6; subst hv; clear yz0 yz1 yz2 yz3 yz4 yz5 yz6 yz7 yf0 yf1 yf2 yf3 yf4 yf5 yf6 yf7; obtain ⟨yz0, yz1, yz2, yz3, yz4, yz5, yz6, yz7, yf0, yf1, yf2, yf3, yf4, yf5, yf6, yf7⟩ := g8 hz6)
  all_goals
    go_wp2
    refine bodyPost_ret (results_ctt rfl _ _ w.heap.size 44 _ (0, 0) _ rfl (set8 hz6) Tryz.underlying44 rfl (by kernel_rfl)) rfl ?_
    have hlt : w.heap.size < w4.heap.size := blk_lt hz4
    exact ⟨_, rfl, Kd.R_mono (Kd.R_lower (set8_R (Kd.R_bound hR6) (fun k_ h => by have h5 : w4.heap.size ≤ k_ := h.2.1; omega)) (Nat.le_of_lt hlt)) (fun _ _ => trivial), set8_B hB6 (Nat.le_refl _)⟩
theorem rd16_yes (k : Nat) (A : Option Addr) (c : Nat) (l r o : List Int) (n : Int) (w : World) (hV : ∀ w0, Below w.heap.size w w0 → Kd.V (Kd.int .u8) 5 w0 w0.heap.size (fun k_ => k_ < w.heap.size) (.slice A l.length c) l) (hf : bsoncore_ReadInt32.f l = some (n, r, true)) (ho : impl_own.f r = some o) :
    Calls Tryz.prog 34 #[.int .i64 16, .slice A l.length c] w (YesPost w 16 ⟨#[]⟩ ⟨#[]⟩ (wrap64 n) 0 0 [] o) := by
  have B0 : ∀ o : Obj, Below w.heap.size w (w.alloc o) := fun o => below_alloc (Below.refl _ _) o
  go_enter Tryz.func34, Tryz.ntmps34
  go_wp2_with (first | (go_at_call 85; (refine (bsoncore_ReadInt32.calls (fun k_ => k_ < w.heap.size) A c l n r true _ (hV _ (B0 _)) hf).mono ?_; rintro e w1 ⟨v1, rfl, hv1, hb1⟩; have hz1 := blk_below (blk_new w _) hb1; have hB1 := below_step (B0 _) hb1; replace hv1 : Kd.V (Kd.int .u8) 5 w1 _ (fun k_ => k_ < w.heap.size ∨ w.heap.size + (0 + 1) ≤ k_) v1 r := Kd.V_mono hv1 (fun k_ h => by simpa using h); obtain ⟨pz0, pz1, pz2, pz3, pz4, pz5, pz6, pz7, pf0, pf1, pf2, pf3, pf4, pf5, pf6, pf7⟩ := g8 hz1)))
  refine gen_ (α := Unit) (P := Code.wp _ _ _ _) (X := fun _ => True) (blk_put hz1 3 _ rfl) (below_set (j := 3) hB1 (Nat.le_refl _)) (vf hv1) trivial ?_
  rintro w4 hz4 hB4 hv4 hX
  obtain ⟨A1, c1, hv⟩ := Kd.V_slice hv4; subst hv; obtain ⟨_, hc4, hC4⟩ := Kd.V_reads' hv4; clear hv4 hz1 hB1 hv1 hb1 hV pz0 pz1 pz2 pz3 pz4 pz5 pz6 pz7 pf0 pf1 pf2 pf3 pf4 pf5 pf6 pf7; obtain ⟨yz0, yz1, yz2, yz3, yz4, yz5, yz6, yz7, yf0, yf1, yf2, yf3, yf4, yf5, yf6, yf7⟩ := g8 hz4
  go_region_with (go_at_call 53; refine (impl_own.calls A1 c1 r o _ (Kd.C_below hC4 (below_drew (Below.refl _ _))) hc4 ho).mono ?_; rintro e w6 ⟨v6, rfl, hR6, hb6⟩; have hz6 := blk_below (w := w4.drew) hz4 hb6; have hB6 := below_step (below_drew hB4) hb6; obtain ⟨A6, c6, hv⟩ := Kd.R_slice hR6; subst hv; clear yz0 yz1 yz2 yz3 yz4 yz5 yz6 yz7 yf0 yf1 yf2 yf3 yf4 yf5 yf6 yf7; obtain ⟨yz0, yz1, yz2, yz3, yz4, yz5, yz6, yz7, yf0, yf1, yf2, yf3, yf4, yf5, yf6, yf7⟩ := g8 hz6)
  all_goals
    go_wp2
    refine bodyPost_ret (results_ctt rfl _ _ w.heap.size 44 _ (0, 0) _ rfl (set8 hz6) Tryz.underlying44 rfl (by kernel_rfl)) rfl ?_
    have hlt : w.heap.size < w4.heap.size := blk_lt hz4
    exact ⟨_, _, rfl, Kd.R_nil _ _ _ _ _, Kd.R_mono (Kd.R_lower (set8_R (Kd.R_bound hR6) (fun k_ h => by have h5 : w4.heap.size ≤ k_ := h.2.1; omega)) (Nat.le_of_lt hlt)) (fun _ _ => by simp [Value.ownBlock]), set8_B hB6 (Nat.le_refl _)⟩
theorem rdouble (A : Option Addr) (c : Nat) (l r : List Int) (n : Int) (P : Nat → Prop) (w : World) (hV : Kd.V (Kd.int .u8) 5 w w.heap.size P (.slice A l.length c) l) (hf : binaryutil_ReadU64.f l = some (n, r, false)) :
    Calls Tryz.prog 71 #[.slice A l.length c] w fun e w' => ∃ v, e = .returned (.tuple #[.float .f64 0, v, .bool false]) ∧ Kd.V (Kd.int .u8) 5 w' w.heap.size (fun k_ => P k_ ∨ w.heap.size ≤ k_) v r ∧ Below w.heap.size w w' := by
  have hfb := frombits_run
  go_enter Tryz.func71, Tryz.ntmps71
  go_wp2_with (go_at_call 110; refine (binaryutil_ReadU64.calls P A c l n r false _ hV hf).mono ?_; rintro e w' ⟨v, rfl, hv, hb⟩)
  try go_wp2
  go_ret3
  exact ⟨v, rfl, hv, hb⟩
theorem rd1 (A : Option Addr) (c : Nat) (l r o : List Int) (n : Int) (w : World) (hV : ∀ w0, Below w.heap.size w w0 → Kd.V (Kd.int .u8) 5 w0 w0.heap.size (fun k_ => k_ < w.heap.size) (.slice A l.length c) l) (hf : binaryutil_ReadU64.f l = some (n, r, false)) (ho : impl_own.f r = some o) :
    Calls Tryz.prog 34 #[.int .i64 1, .slice A l.length c] w (NoPost w o) := by
  have B0 : ∀ o : Obj, Below w.heap.size w (w.alloc o) := fun o => below_alloc (Below.refl _ _) o; have hfb := fun n w => bits_run n w
  go_enter Tryz.func34, Tryz.ntmps34
  go_wp2_with (go_at_call 71; (refine (rdouble A c l r n (fun k_ => k_ < w.heap.size) _ (hV _ (B0 _)) hf).mono ?_; rintro e w1 ⟨v1, rfl, hv1, hb1⟩; have hz1 := blk_below (blk_new w _) hb1; have hB1 := below_step (B0 _) hb1; replace hv1 : Kd.V (Kd.int .u8) 5 w1 _ (fun k_ => k_ < w.heap.size ∨ w.heap.size + (0 + 1) ≤ k_) v1 r := Kd.V_mono hv1 (fun k_ h => by simpa using h); obtain ⟨pz0, pz1, pz2, pz3, pz4, pz5, pz6, pz7, pf0, pf1, pf2, pf3, pf4, pf5, pf6, pf7⟩ := g8 hz1))
  refine gen_ (α := Unit) (P := Code.wp _ _ _ _) (X := fun _ => True) (set8 (blk_put hz1 4 _ rfl)) (set8_B (below_set (j := 4) hB1 (Nat.le_refl _)) (Nat.le_refl _)) (set8_V (vf hv1) (fun k_ h => by omega)) trivial ?_
  rintro w4 hz4 hB4 hv4 hX
  obtain ⟨A1, c1, hv⟩ := Kd.V_slice hv4; subst hv; obtain ⟨_, hc4, hC4⟩ := Kd.V_reads' hv4; clear hv4 hz1 hB1 hv1 hb1 hV pz0 pz1 pz2 pz3 pz4 pz5 pz6 pz7 pf0 pf1 pf2 pf3 pf4 pf5 pf6 pf7; obtain ⟨yz0, yz1, yz2, yz3, yz4, yz5, yz6, yz7, yf0, yf1, yf2, yf3, yf4, yf5, yf6, yf7⟩ := g8 hz4
  go_region_with (go_at_call 53; refine (impl_own.calls A1 c1 r o _ (Kd.C_below hC4 (below_drew (Below.refl _ _))) hc4 ho).mono ?_; rintro e w6 ⟨v6, rfl, hR6, hb6⟩; have hz6 := blk_below (w := w4.drew) hz4 hb6; have hB6 := below_step (below_drew hB4) hb6; obtain ⟨A6, c6, hv⟩ := Kd.R_slice hR6; subst hv; clear yz0 yz1 yz2 yz3 yz4 yz5 yz6 yz7 yf0 yf1 yf2 yf3 yf4 yf5 yf6 yf7; obtain ⟨yz0, yz1, yz2, yz3, yz4, yz5, yz6, yz7, yf0, yf1, yf2, yf3, yf4, yf5, yf6, yf7⟩ := g8 hz6)
  all_goals
    go_wp2
    refine bodyPost_ret (results_ctt rfl _ _ w.heap.size 44 _ (0, 0) _ rfl (set8 hz6) Tryz.underlying44 rfl (by kernel_rfl)) rfl ?_
    have hlt : w.heap.size < w4.heap.size := blk_lt hz4
    exact ⟨_, rfl, Kd.R_mono (Kd.R_lower (set8_R (Kd.R_bound hR6) (fun k_ h => by have h5 : w4.heap.size ≤ k_ := h.2.1; omega)) (Nat.le_of_lt hlt)) (fun _ _ => trivial), set8_B hB6 (Nat.le_refl _)⟩
theorem own_zero : impl_own.f [0, 0, 0, 0, 0, 0, 0, 0, 0, 0, 0, 0] = some [0, 0, 0, 0, 0, 0, 0, 0, 0, 0, 0, 0] := by
  unfold impl_own.f
  rw [if_pos (by simp)]
  rfl
theorem roid_short (A : Option Addr) (n c : Nat) (w : World) (hn : n < 12) : Calls Tryz.prog 76 #[.slice A n c] w fun e w' => e = .returned (.tuple #[.agg #[.int .u8 0, .int .u8 0, .int .u8 0, .int .u8 0, .int .u8 0, .int .u8 0, .int .u8 0, .int .u8 0, .int .u8 0, .int .u8 0, .int .u8 0, .int .u8 0], .slice A n c, .bool false]) ∧ Below w.heap.size w w' := by
  have hd : decide ((n : Int) < 12) = true := decide_eq_true (by omega)
  have hd2 : decide (n < 12) = true := decide_eq_true hn
  go_enter Tryz.func76, Tryz.ntmps76
  go_wp2
  refine bodyPost_ret (results_ctt rfl _ _ w.heap.size 122 #[.int .u8 0, .int .u8 0, .int .u8 0, .int .u8 0, .int .u8 0, .int .u8 0, .int .u8 0, .int .u8 0, .int .u8 0, .int .u8 0, .int .u8 0, .int .u8 0] (0, 0) _ rfl (blk_new12 w _ _ _) Tryz.underlying122 rfl (by kernel_rfl)) rfl ?_
  exact ⟨rfl, below_alloc (below_alloc (Below.refl _ _) _) _⟩
theorem rdbp_no (k : Nat) (A : Option Addr) (c : Nat) (l : List Int) (s : ByteArray) (r : List Int) (P : Nat → Prop) (w : World) (hV : Kd.V (Kd.int .u8) 5 w w.heap.size P (.slice A l.length c) l) (hf : bsoncore_readstring.f k l = some (s, r, false)) :
    Calls Tryz.prog 81 #[.slice A l.length c] w fun e w' => e = .returned (.tuple #[.string ⟨#[]⟩, .agg #[.int .u8 0, .int .u8 0, .int .u8 0, .int .u8 0, .int .u8 0, .int .u8 0, .int .u8 0, .int .u8 0, .int .u8 0, .int .u8 0, .int .u8 0, .int .u8 0], .slice A l.length c, .bool false]) ∧ Below w.heap.size w w' := by
  have B0 : ∀ o : Obj, Below w.heap.size w (w.alloc o) := fun o => below_alloc (Below.refl _ _) o
  go_enter Tryz.func81, Tryz.ntmps81
  go_wp2_with (go_at_call 111; (refine (bsoncore_readstring.calls k P A c l s r false _ (V_reb hV (B0 _) _) hf).mono ?_; rintro e w1 ⟨v1, rfl, hv1, hb1⟩; have hz := blk_below (blk_new w _) hb1; have hB1 := below_step (B0 _) hb1; have z0 := (blk_cell hz 0).trans rfl; have f0 := blk_frozen hz 0; have z1 := (blk_cell hz 1).trans rfl; have f1 := blk_frozen hz 1; have z2 := (blk_cell hz 2).trans rfl; have f2 := blk_frozen hz 2; have z3 := (blk_cell hz 3).trans rfl; have f3 := blk_frozen hz 3; have z4 := (blk_cell hz 4).trans rfl; have f4 := blk_frozen hz 4; have z5 := (blk_cell hz 5).trans rfl; have f5 := blk_frozen hz 5; have z6 := (blk_cell hz 6).trans rfl; have f6 := blk_frozen hz 6; have z7 := (blk_cell hz 7).trans rfl; have f7 := blk_frozen hz 7; have z8 := (blk_cell hz 8).trans rfl; have f8 := blk_frozen hz 8; have z9 := (blk_cell hz 9).trans rfl; have f9 := blk_frozen hz 9; have z10 := (blk_cell hz 10).trans rfl; have f10 := blk_frozen hz 10; have z11 := (blk_cell hz 11).trans rfl; have f11 := blk_frozen hz 11))
  refine bodyPost_ret (results_list (rs := [.tmp 2, .cell 3 122, .tmp 4, .tmp 5]) rfl (by simp) (.tmp (.cell w.heap.size 122 #[.int .u8 0, .int .u8 0, .int .u8 0, .int .u8 0, .int .u8 0, .int .u8 0, .int .u8 0, .int .u8 0, .int .u8 0, .int .u8 0, .int .u8 0, .int .u8 0] (0, 0) _ rfl (set12 hz) Tryz.underlying122 rfl (by kernel_rfl) (.tmp (.tmp .nil))))) rfl ?_
  exact ⟨rfl, set12_B hB1 (Nat.le_refl _)⟩
theorem rdbp_short (k : Nat) (A : Option Addr) (c : Nat) (l : List Int) (s : ByteArray) (r : List Int) (P : Nat → Prop) (w : World) (hV : Kd.V (Kd.int .u8) 5 w w.heap.size P (.slice A l.length c) l) (hf : bsoncore_readstring.f k l = some (s, r, true)) (hr : r.length < 12) :
    Calls Tryz.prog 81 #[.slice A l.length c] w fun e w' => e = .returned (.tuple #[.string ⟨#[]⟩, .agg #[.int .u8 0, .int .u8 0, .int .u8 0, .int .u8 0, .int .u8 0, .int .u8 0, .int .u8 0, .int .u8 0, .int .u8 0, .int .u8 0, .int .u8 0, .int .u8 0], .slice A l.length c, .bool false]) ∧ Below w.heap.size w w' := by
  have B0 : ∀ o : Obj, Below w.heap.size w (w.alloc o) := fun o => below_alloc (Below.refl _ _) o
  go_enter Tryz.func81, Tryz.ntmps81
  go_wp2_with (first | (go_at_call 111; (refine (bsoncore_readstring.calls k P A c l s r true _ (V_reb hV (B0 _) _) hf).mono ?_; rintro e w1 ⟨v1, rfl, hv1, hb1⟩; obtain ⟨A1, c1, hv⟩ := Kd.V_slice hv1; subst hv; have hz1 := blk_below (blk_new w _) hb1; have hB1 := below_step (B0 _) hb1)) | (go_at_call 76; (refine (roid_short A1 r.length c1 _ hr).mono ?_; rintro e w2 ⟨rfl, hb2⟩; have hz := blk_below hz1 hb2; have hB2 := below_step hB1 hb2; have z0 := (blk_cell hz 0).trans rfl; have f0 := blk_frozen hz 0; have z1 := (blk_cell hz 1).trans rfl; have f1 := blk_frozen hz 1; have z2 := (blk_cell hz 2).trans rfl; have f2 := blk_frozen hz 2; have z3 := (blk_cell hz 3).trans rfl; have f3 := blk_frozen hz 3; have z4 := (blk_cell hz 4).trans rfl; have f4 := blk_frozen hz 4; have z5 := (blk_cell hz 5).trans rfl; have f5 := blk_frozen hz 5; have z6 := (blk_cell hz 6).trans rfl; have f6 := blk_frozen hz 6; have z7 := (blk_cell hz 7).trans rfl; have f7 := blk_frozen hz 7; have z8 := (blk_cell hz 8).trans rfl; have f8 := blk_frozen hz 8; have z9 := (blk_cell hz 9).trans rfl; have f9 := blk_frozen hz 9; have z10 := (blk_cell hz 10).trans rfl; have f10 := blk_frozen hz 10; have z11 := (blk_cell hz 11).trans rfl; have f11 := blk_frozen hz 11)))
  have hz := set12 (b0 := .int .u8 0) (b1 := .int .u8 0) (b2 := .int .u8 0) (b3 := .int .u8 0) (b4 := .int .u8 0) (b5 := .int .u8 0) (b6 := .int .u8 0) (b7 := .int .u8 0) (b8 := .int .u8 0) (b9 := .int .u8 0) (b10 := .int .u8 0) (b11 := .int .u8 0) hz
  refine bodyPost_ret (results_list (rs := [.tmp 2, .cell 3 122, .tmp 4, .tmp 5]) rfl (by simp) (.tmp (.cell w.heap.size 122 #[.int .u8 0, .int .u8 0, .int .u8 0, .int .u8 0, .int .u8 0, .int .u8 0, .int .u8 0, .int .u8 0, .int .u8 0, .int .u8 0, .int .u8 0, .int .u8 0] (0, 0) _ rfl (set12 hz) Tryz.underlying122 rfl (by kernel_rfl) (.tmp (.tmp .nil))))) rfl ?_
  exact ⟨rfl, set12_B (set12_B hB2 (Nat.le_refl _)) (Nat.le_refl _)⟩
theorem rd7 (A : Option Addr) (c : Nat) (l o o2 : List Int) (ho2 : o2 = [0, 0, 0, 0, 0, 0, 0, 0, 0, 0, 0, 0]) (ho : impl_own.f l = some o) (hl : l.length < 12) (w : World) (hV : ∀ w0, Below w.heap.size w w0 → Kd.V (Kd.int .u8) 5 w0 w0.heap.size (fun k_ => k_ < w.heap.size) (.slice A l.length c) l) :
    Calls Tryz.prog 34 #[.int .i64 7, .slice A l.length c] w (NoPost w o) := by
  have B0 : ∀ o1 o2 : Obj, Below w.heap.size w ((w.alloc o1).alloc o2) := fun o1 o2 => below_alloc (below_alloc (Below.refl _ _) o1) o2
  go_enter Tryz.func34, Tryz.ntmps34
  go_wp2_with (first | (go_at_call 76; (refine (roid_short A l.length c _ hl).mono ?_; rintro e w1 ⟨rfl, hb1⟩; have hzg := blk_below (blk_new12 w _ _ _) hb1; have hzo := blk_below (blk_new2 w _ _ _) hb1; have hB1 := below_step (B0 _ _) hb1; have hv1 : Kd.V (Kd.int .u8) 5 w1 w.heap.size (fun k_ => k_ < w.heap.size ∨ w.heap.size + (1 + 1) ≤ k_) (.slice A l.length c) l := (by exact Kd.V_mono (V_reb (hV _ (B0 _ _)) hb1 _) (fun k_ h => Or.inl h)); obtain ⟨oz0, oz1, oz2, oz3, oz4, oz5, oz6, oz7, oz8, oz9, oz10, oz11, of0, of1, of2, of3, of4, of5, of6, of7, of8, of9, of10, of11⟩ := g12 hzo; obtain ⟨pz0, pz1, pz2, pz3, pz4, pz5, pz6, pz7, pf0, pf1, pf2, pf3, pf4, pf5, pf6, pf7⟩ := g8 hzg)) | (go_at_call 53; (refine (impl_own.calls (some ⟨w.heap.size + 1, 0, none⟩) 12 [0, 0, 0, 0, 0, 0, 0, 0, 0, 0, 0, 0] o2 _ (C_of_blk12' (set12 hzo)) (Nat.le_refl _) (by subst ho2; exact own_zero)).mono ?_; rintro e w3 ⟨v3, rfl, hR3, hb3⟩; obtain ⟨A3, c3, hv⟩ := Kd.R_slice hR3; subst hv; obtain ⟨hz3, hs3⟩ := st_ (set12_O hzg (by omega)) hb3; have hB3 := below_step (set12_B hB1 (by omega)) hb3; have hv3 := Kd.V_below (set12_V (g := w.heap.size + 1) hv1 (fun k_ h => by omega)) hb3; clear oz0 oz1 oz2 oz3 oz4 oz5 oz6 oz7 oz8 oz9 oz10 oz11 of0 of1 of2 of3 of4 of5 of6 of7 of8 of9 of10 of11 pz0 pz1 pz2 pz3 pz4 pz5 pz6 pz7 pf0 pf1 pf2 pf3 pf4 pf5 pf6 pf7; obtain ⟨qz0, qz1, qz2, qz3, qz4, qz5, qz6, qz7, qf0, qf1, qf2, qf3, qf4, qf5, qf6, qf7⟩ := g8 hz3)))
  refine gen_ (α := Unit) (P := Code.wp _ _ _ _) (X := fun _ => True) (set8 (blk_put hz3 6 _ rfl)) (set8_B (below_set (j := 6) hB3 (Nat.le_refl _)) (Nat.le_refl _)) (set8_V (vf hv3) (fun k_ h => by omega)) trivial ?_
  rintro w4 hz4 hB4 hv4 hX
  obtain ⟨_, hc4, hC4⟩ := Kd.V_reads' hv4; clear hv4 hz3 hB3 hv3 hb3 hR3 hs3 hzg hzo hB1 hv1 hb1 hV qz0 qz1 qz2 qz3 qz4 qz5 qz6 qz7 qf0 qf1 qf2 qf3 qf4 qf5 qf6 qf7; obtain ⟨yz0, yz1, yz2, yz3, yz4, yz5, yz6, yz7, yf0, yf1, yf2, yf3, yf4, yf5, yf6, yf7⟩ := g8 hz4
  go_region_with (go_at_call 53; refine (impl_own.calls A c l o _ (Kd.C_below hC4 (below_drew (Below.refl _ _))) hc4 ho).mono ?_; rintro e w6 ⟨v6, rfl, hR6, hb6⟩; have hz6 := blk_below (w := w4.drew) hz4 hb6; have hB6 := below_step (below_drew hB4) hb6; obtain ⟨A6, c6, hv⟩ := Kd.R_slice hR6; subst hv; clear yz0 yz1 yz2 yz3 yz4 yz5 yz6 yz7 yf0 yf1 yf2 yf3 yf4 yf5 yf6 yf7; obtain ⟨yz0, yz1, yz2, yz3, yz4, yz5, yz6, yz7, yf0, yf1, yf2, yf3, yf4, yf5, yf6, yf7⟩ := g8 hz6)
  all_goals
    go_wp2
    refine bodyPost_ret (results_ctt rfl _ _ w.heap.size 44 _ (0, 0) _ rfl (set8 hz6) Tryz.underlying44 rfl (by kernel_rfl)) rfl ?_
    have hlt : w.heap.size < w4.heap.size := blk_lt hz4
    exact ⟨_, rfl, Kd.R_mono (Kd.R_lower (set8_R (Kd.R_bound hR6) (fun k_ h => by have h5 : w4.heap.size ≤ k_ := h.2.1; omega)) (Nat.le_of_lt hlt)) (fun _ _ => trivial), set8_B hB6 (Nat.le_refl _)⟩
theorem rd12 (w : World) (A : Option Addr) (c : Nat) (l o o2 : List Int) (ho2 : o2 = [0, 0, 0, 0, 0, 0, 0, 0, 0, 0, 0, 0]) (ho : impl_own.f l = some o) (hcall : ∀ w0, Below w.heap.size w w0 → Calls Tryz.prog 81 #[.slice A l.length c] w0 fun e w' => e = .returned (.tuple #[.string ⟨#[]⟩, .agg #[.int .u8 0, .int .u8 0, .int .u8 0, .int .u8 0, .int .u8 0, .int .u8 0, .int .u8 0, .int .u8 0, .int .u8 0, .int .u8 0, .int .u8 0, .int .u8 0], .slice A l.length c, .bool false]) ∧ Below w0.heap.size w0 w') (hV : ∀ w0, Below w.heap.size w w0 → Kd.V (Kd.int .u8) 5 w0 w0.heap.size (fun k_ => k_ < w.heap.size) (.slice A l.length c) l) :
    Calls Tryz.prog 34 #[.int .i64 12, .slice A l.length c] w (NoPost w o) := by
  have B0 : ∀ o1 o2 : Obj, Below w.heap.size w ((w.alloc o1).alloc o2) := fun o1 o2 => below_alloc (below_alloc (Below.refl _ _) o1) o2
  go_enter Tryz.func34, Tryz.ntmps34
  go_wp2_with (first | (go_at_call 81; (refine (hcall _ (B0 _ _)).mono ?_; rintro e w1 ⟨rfl, hb1⟩; have hzg := blk_below (blk_new12 w _ _ _) hb1; have hzo := blk_below (blk_new2 w _ _ _) hb1; have hB1 := below_step (B0 _ _) hb1; have hv1 : Kd.V (Kd.int .u8) 5 w1 w.heap.size (fun k_ => k_ < w.heap.size ∨ w.heap.size + (1 + 1) ≤ k_) (.slice A l.length c) l := (by exact Kd.V_mono (V_reb (hV _ (B0 _ _)) hb1 _) (fun k_ h => Or.inl h)); obtain ⟨oz0, oz1, oz2, oz3, oz4, oz5, oz6, oz7, oz8, oz9, oz10, oz11, of0, of1, of2, of3, of4, of5, of6, of7, of8, of9, of10, of11⟩ := g12 hzo; obtain ⟨pz0, pz1, pz2, pz3, pz4, pz5, pz6, pz7, pf0, pf1, pf2, pf3, pf4, pf5, pf6, pf7⟩ := g8 hzg)) | (go_at_call 53; (refine (impl_own.calls (some ⟨w.heap.size + 1, 0, none⟩) 12 [0, 0, 0, 0, 0, 0, 0, 0, 0, 0, 0, 0] o2 _ (C_of_blk12' (set12 (blk_far hzo (p := ⟨w.heap.size, 1, none⟩) (by show w.heap.size + 1 ≠ w.heap.size; omega) _))) (Nat.le_refl _) (by subst ho2; exact own_zero)).mono ?_; rintro e w3 ⟨v3, rfl, hR3, hb3⟩; obtain ⟨A3, c3, hv⟩ := Kd.R_slice hR3; subst hv; obtain ⟨hz3, hs3⟩ := st_ (set12_O (blk_put hzg 1 _ rfl) (by omega)) hb3; have hB3 := below_step (set12_B (below_set (j := 1) hB1 (Nat.le_refl _)) (by omega)) hb3; have hv3 := Kd.V_below (set12_V (g := w.heap.size + 1) (vf hv1) (fun k_ h => by omega)) hb3; clear oz0 oz1 oz2 oz3 oz4 oz5 oz6 oz7 oz8 oz9 oz10 oz11 of0 of1 of2 of3 of4 of5 of6 of7 of8 of9 of10 of11 pz0 pz1 pz2 pz3 pz4 pz5 pz6 pz7 pf0 pf1 pf2 pf3 pf4 pf5 pf6 pf7; obtain ⟨qz0, qz1, qz2, qz3, qz4, qz5, qz6, qz7, qf0, qf1, qf2, qf3, qf4, qf5, qf6, qf7⟩ := g8 hz3)))
  refine gen_ (α := Unit) (P := Code.wp _ _ _ _) (X := fun _ => True) (set8 (blk_put hz3 6 _ rfl)) (set8_B (below_set (j := 6) hB3 (Nat.le_refl _)) (Nat.le_refl _)) (set8_V (vf hv3) (fun k_ h => by omega)) trivial ?_
  rintro w4 hz4 hB4 hv4 hX
  obtain ⟨_, hc4, hC4⟩ := Kd.V_reads' hv4; clear hv4 hz3 hB3 hv3 hb3 hR3 hs3 hzg hzo hB1 hv1 hb1 hV qz0 qz1 qz2 qz3 qz4 qz5 qz6 qz7 qf0 qf1 qf2 qf3 qf4 qf5 qf6 qf7; obtain ⟨yz0, yz1, yz2, yz3, yz4, yz5, yz6, yz7, yf0, yf1, yf2, yf3, yf4, yf5, yf6, yf7⟩ := g8 hz4
  go_region_with (go_at_call 53; refine (impl_own.calls A c l o _ (Kd.C_below hC4 (below_drew (Below.refl _ _))) hc4 ho).mono ?_; rintro e w6 ⟨v6, rfl, hR6, hb6⟩; have hz6 := blk_below (w := w4.drew) hz4 hb6; have hB6 := below_step (below_drew hB4) hb6; obtain ⟨A6, c6, hv⟩ := Kd.R_slice hR6; subst hv; clear yz0 yz1 yz2 yz3 yz4 yz5 yz6 yz7 yf0 yf1 yf2 yf3 yf4 yf5 yf6 yf7; obtain ⟨yz0, yz1, yz2, yz3, yz4, yz5, yz6, yz7, yf0, yf1, yf2, yf3, yf4, yf5, yf6, yf7⟩ := g8 hz6)
  all_goals
    go_wp2
    refine bodyPost_ret (results_ctt rfl _ _ w.heap.size 44 _ (0, 0) _ rfl (set8 hz6) Tryz.underlying44 rfl (by kernel_rfl)) rfl ?_
    have hlt : w.heap.size < w4.heap.size := blk_lt hz4
    exact ⟨_, rfl, Kd.R_mono (Kd.R_lower (set8_R (Kd.R_bound hR6) (fun k_ h => by have h5 : w4.heap.size ≤ k_ := h.2.1; omega)) (Nat.le_of_lt hlt)) (fun _ _ => trivial), set8_B hB6 (Nat.le_refl _)⟩
def impl_Read.no (r : List Int) : Option (Int × ByteArray × ByteArray × Int × Int × Int × List Int × List S95 × List Int × Bool) := (impl_own.f r).bind fun o => some (0, ⟨#[]⟩, ⟨#[]⟩, 0, 0, 0, [], [], o, false)
def impl_Read.f (k : Nat) (a0 : Int) (l1 : List Int) : Option (Int × ByteArray × ByteArray × Int × Int × Int × List Int × List S95 × List Int × Bool) :=
  if a0 = 1 then (binaryutil_ReadU64.f l1).bind fun x => if x.2.2 = true then none else impl_Read.no x.2.1
  else if a0 = 2 then (bsoncore_ReadString.f k l1).bind fun x => if x.2.2 = true then none else impl_Read.no x.2.1
  else if a0 = 3 then (bsoncore_ReadDocument.f l1).bind fun x => if x.2.2 = true then none else (impl_own.f x.1).bind fun _ => impl_Read.no x.2.1
  else if a0 = 4 then (bsoncore_ReadArray.f l1).bind fun x => if x.2.2 = true then none else (impl_own.f x.1).bind fun _ => impl_Read.no x.2.1
  else if a0 = 5 then (bsoncore_ReadBinary.f l1).bind fun x => if x.2.2.2 = true then none else (impl_own.f x.2.1).bind fun _ => impl_Read.no x.2.2.1
  else if a0 = 7 then if l1.length < 12 then impl_Read.no l1 else none
  else if a0 = 8 then (bsoncore_ReadBoolean.f l1).bind fun x => if x.2.2 = true then none else (impl_one.f x.1).bind fun _ => impl_Read.no x.2.1
  else if a0 = 9 then (bsoncore_ReadDateTime.f l1).bind fun x => if x.2.2 = true then none else impl_Read.no x.2.1
  else if a0 = 11 then (bsoncore_ReadRegex.f l1).bind fun x => if x.2.2.2 = true then none else impl_Read.no x.2.2.1
  else if a0 = 12 then (bsoncore_readstring.f k l1).bind fun x => if x.2.2 = false ∨ x.2.1.length < 12 then impl_Read.no l1 else none
  else if a0 = 13 then (bsoncore_ReadJavaScript.f k l1).bind fun x => if x.2.2 = true then none else impl_Read.no x.2.1
  else if a0 = 14 then (bsoncore_ReadSymbol.f k l1).bind fun x => if x.2.2 = true then none else impl_Read.no x.2.1
  else if a0 = 15 then (bsoncore_ReadCodeWithScope.f k l1).bind fun x => if x.2.2.2 = true then none else (impl_own.f x.2.1).bind fun _ => impl_Read.no x.2.2.1
  else if a0 = 16 then (bsoncore_ReadInt32.f l1).bind fun x => if x.2.2 = true then (impl_own.f x.2.1).bind fun o => some (16, ⟨#[]⟩, ⟨#[]⟩, (wrap64 x.1), 0, 0, [], [], o, true) else impl_Read.no x.2.1
  else if a0 = 17 then (bsoncore_ReadTimestamp.f l1).bind fun x => if x.2.2.2 = true then none else impl_Read.no x.2.2.1
  else if a0 = 18 then (bsoncore_ReadInt64.f l1).bind fun x => if x.2.2 = true then none else impl_Read.no x.2.1
  else if a0 = 19 then (bsoncore_ReadDecimal128.f l1).bind fun x => if x.2.2.2 = true then none else impl_Read.no x.2.2.1
  else none
theorem impl_Read.mono : ∀ a0 a1 k, LeO (impl_Read.f k a0 a1) (impl_Read.f (k + 1) a0 a1) := by
  intro a0 a1 k
  unfold impl_Read.f
  exact (LeO.ite (LeO.refl _) (LeO.ite (LeO.bind (bsoncore_ReadString.mono _ _) (fun _ => LeO.refl _)) (LeO.ite (LeO.refl _) (LeO.ite (LeO.refl _) (LeO.ite (LeO.refl _) (LeO.ite (LeO.refl _) (LeO.ite (LeO.refl _) (LeO.ite (LeO.refl _) (LeO.ite (LeO.refl _) (LeO.ite (LeO.bind (bsoncore_readstring.mono _ _) (fun _ => LeO.refl _)) (LeO.ite (LeO.bind (bsoncore_ReadJavaScript.mono _ _) (fun _ => LeO.refl _)) (LeO.ite (LeO.bind (bsoncore_ReadSymbol.mono _ _) (fun _ => LeO.refl _)) (LeO.ite (LeO.bind (bsoncore_ReadCodeWithScope.mono _ _) (fun _ => LeO.refl _)) (LeO.ite (LeO.refl _) (LeO.ite (LeO.refl _) (LeO.ite (LeO.refl _) (LeO.ite (LeO.refl _) (LeO.refl _))))))))))))))))))
theorem impl_Read.calls (k : Nat) (a0 : Int) (A1 : Option Addr) (c1 : Nat) (l1 : List Int) (r1 : Int) (r2 : ByteArray) (r3 : ByteArray) (r4 : Int) (r5 : Int) (r6 : Int) (r7 : List Int) (r8 : List (S95)) (r9 : List Int) (r10 : Bool) (w : World) (hr1 : Kd.C (Kd.int .u8) w A1 l1.length l1) (hc1 : l1.length ≤ c1) (h : impl_Read.f k a0 l1 = some (r1, r2, r3, r4, r5, r6, r7, r8, r9, r10)) :
    Calls Tryz.prog 34 #[.int .i64 a0, .slice A1 l1.length c1] w fun e w' => ∃ v6_ v7_ v8_ : Value, e = .returned (.tuple #[.agg #[.int .i64 r1, .string r2, .string r3, .int .i64 r4, .int .u64 r5, .int .u64 r6, v6_, v7_], v8_, .bool r10]) ∧ Kd.R (Kd.int .u8) 5 w' w.heap.size (fun k_ => some k_ ≠ (v8_ : Value).ownBlock) v6_ r7 ∧ Kd.R k95 95 w' w.heap.size (fun k_ => some k_ ≠ (v6_ : Value).ownBlock ∧ some k_ ≠ (v8_ : Value).ownBlock) v7_ r8 ∧ Kd.R (Kd.int .u8) 5 w' w.heap.size (fun k_ => some k_ ≠ (v6_ : Value).ownBlock) v8_ r9 ∧ Below w.heap.size w w' := by
  unfold impl_Read.f at h
  have hV : ∀ w0, Below w.heap.size w w0 → Kd.V (Kd.int .u8) 5 w0 w0.heap.size (fun k_ => k_ < w.heap.size) (.slice A1 l1.length c1) l1 := fun w0 hb => Kd.V_mk hc1 (Kd.F_mono (Kd.F_below (Kd.F_bound (Kd.C_F (Kd.heap_int _) hr1)) hb) (fun k_ hk => hk.2))
  have no : ∀ {K : Int} {r o : List Int}, Calls Tryz.prog 34 #[.int .i64 K, .slice A1 l1.length c1] w (NoPost w o) → some ((0 : Int), (⟨#[]⟩ : ByteArray), (⟨#[]⟩ : ByteArray), (0 : Int), (0 : Int), (0 : Int), ([] : List Int), ([] : List S95), o, false) = some (r1, r2, r3, r4, r5, r6, r7, r8, r9, r10) → Calls Tryz.prog 34 #[.int .i64 K, .slice A1 l1.length c1] w fun e w' => ∃ v6_ v7_ v8_ : Value, e = .returned (.tuple #[.agg #[.int .i64 r1, .string r2, .string r3, .int .i64 r4, .int .u64 r5, .int .u64 r6, v6_, v7_], v8_, .bool r10]) ∧ Kd.R (Kd.int .u8) 5 w' w.heap.size (fun k_ => some k_ ≠ (v8_ : Value).ownBlock) v6_ r7 ∧ Kd.R k95 95 w' w.heap.size (fun k_ => some k_ ≠ (v6_ : Value).ownBlock ∧ some k_ ≠ (v8_ : Value).ownBlock) v7_ r8 ∧ Kd.R (Kd.int .u8) 5 w' w.heap.size (fun k_ => some k_ ≠ (v6_ : Value).ownBlock) v8_ r9 ∧ Below w.heap.size w w' := by
    intro K r o hcall h
    simp only [Option.some.injEq, Prod.mk.injEq] at h
    obtain ⟨rfl, rfl, rfl, rfl, rfl, rfl, rfl, rfl, rfl, rfl⟩ := h
    refine hcall.mono ?_
    rintro e w' ⟨v, rfl, hR, hB⟩
    exact ⟨_, _, v, rfl, Kd.R_nil _ _ _ _ _, Kd.R_nil _ _ _ _ _, Kd.R_mono hR (fun _ _ => by simp [Value.ownBlock]), hB⟩
  have yes : ∀ {K a d e g : Int} {s s2 : ByteArray} {x o : List Int}, Calls Tryz.prog 34 #[.int .i64 K, .slice A1 l1.length c1] w (YesPost w a s s2 d e g x o) → some (a, s, s2, d, e, g, x, ([] : List S95), o, true) = some (r1, r2, r3, r4, r5, r6, r7, r8, r9, r10) → Calls Tryz.prog 34 #[.int .i64 K, .slice A1 l1.length c1] w fun e w' => ∃ v6_ v7_ v8_ : Value, e = .returned (.tuple #[.agg #[.int .i64 r1, .string r2, .string r3, .int .i64 r4, .int .u64 r5, .int .u64 r6, v6_, v7_], v8_, .bool r10]) ∧ Kd.R (Kd.int .u8) 5 w' w.heap.size (fun k_ => some k_ ≠ (v8_ : Value).ownBlock) v6_ r7 ∧ Kd.R k95 95 w' w.heap.size (fun k_ => some k_ ≠ (v6_ : Value).ownBlock ∧ some k_ ≠ (v8_ : Value).ownBlock) v7_ r8 ∧ Kd.R (Kd.int .u8) 5 w' w.heap.size (fun k_ => some k_ ≠ (v6_ : Value).ownBlock) v8_ r9 ∧ Below w.heap.size w w' := by
    intro K a d e g s s2 x o hcall h
    simp only [Option.some.injEq, Prod.mk.injEq] at h
    obtain ⟨rfl, rfl, rfl, rfl, rfl, rfl, rfl, rfl, rfl, rfl⟩ := h
    refine hcall.mono ?_
    rintro e w' ⟨v2, v, rfl, hR2, hR, hB⟩
    exact ⟨v2, _, v, rfl, hR2, Kd.R_nil _ _ _ _ _, hR, hB⟩
  by_cases h1 : a0 = 1
  · subst h1
    rw [if_pos rfl] at h; obtain ⟨⟨n, r, ok⟩, hf, h⟩ := Option.bind_eq_some_iff.1 h
    cases ok with
    | true =>
      rw [if_pos rfl] at h; cases h
    | false =>
      rw [if_neg (by simp)] at h
      obtain ⟨o, ho, h⟩ := Option.bind_eq_some_iff.1 h
      exact no (r := r) (rd1 A1 c1 l1 r o n w hV hf ho) h
  rw [if_neg h1] at h
  by_cases h2 : a0 = 2
  · subst h2
    rw [if_pos rfl] at h; obtain ⟨⟨s, r, ok⟩, hf, h⟩ := Option.bind_eq_some_iff.1 h
    cases ok with
    | true =>
      rw [if_pos rfl] at h; cases h
    | false =>
      rw [if_neg (by simp)] at h
      obtain ⟨o, ho, h⟩ := Option.bind_eq_some_iff.1 h
      exact no (r := r) (rd2_no k A1 c1 l1 r o s w hV hf ho) h
  rw [if_neg h2] at h
  by_cases h3 : a0 = 3
  · subst h3
    rw [if_pos rfl] at h; obtain ⟨⟨b, r, ok⟩, hf, h⟩ := Option.bind_eq_some_iff.1 h
    cases ok with
    | true =>
      rw [if_pos rfl] at h; cases h
    | false =>
      rw [if_neg (by simp)] at h
      obtain ⟨o2, ho2, h⟩ := Option.bind_eq_some_iff.1 h; obtain ⟨o, ho, h⟩ := Option.bind_eq_some_iff.1 h
      exact no (r := r) (rd3_no k A1 c1 l1 r o b o2 ho2 w hV hf ho) h
  rw [if_neg h3] at h
  by_cases h4 : a0 = 4
  · subst h4
    rw [if_pos rfl] at h; obtain ⟨⟨b, r, ok⟩, hf, h⟩ := Option.bind_eq_some_iff.1 h
    cases ok with
    | true =>
      rw [if_pos rfl] at h; cases h
    | false =>
      rw [if_neg (by simp)] at h
      obtain ⟨o2, ho2, h⟩ := Option.bind_eq_some_iff.1 h; obtain ⟨o, ho, h⟩ := Option.bind_eq_some_iff.1 h
      exact no (r := r) (rd4_no k A1 c1 l1 r o b o2 ho2 w hV hf ho) h
  rw [if_neg h4] at h
  by_cases h5 : a0 = 5
  · subst h5
    rw [if_pos rfl] at h; obtain ⟨⟨t, b, r, ok⟩, hf, h⟩ := Option.bind_eq_some_iff.1 h
    cases ok with
    | true =>
      rw [if_pos rfl] at h; cases h
    | false =>
      rw [if_neg (by simp)] at h
      obtain ⟨o2, ho2, h⟩ := Option.bind_eq_some_iff.1 h; obtain ⟨o, ho, h⟩ := Option.bind_eq_some_iff.1 h
      exact no (r := r) (rd5_no k A1 c1 l1 r o t b o2 ho2 w hV hf ho) h
  rw [if_neg h5] at h
  by_cases h7 : a0 = 7
  · subst h7
    rw [if_pos rfl] at h
    by_cases hl : l1.length < 12
    case neg => rw [if_neg hl] at h; cases h
    rw [if_pos hl] at h; obtain ⟨o, ho, h⟩ := Option.bind_eq_some_iff.1 h
    exact no (r := l1) (rd7 A1 c1 l1 o _ rfl ho hl w hV) h
  rw [if_neg h7] at h
  by_cases h8 : a0 = 8
  · subst h8
    rw [if_pos rfl] at h; obtain ⟨⟨q, r, ok⟩, hf, h⟩ := Option.bind_eq_some_iff.1 h
    cases ok with
    | true =>
      rw [if_pos rfl] at h; cases h
    | false =>
      rw [if_neg (by simp)] at h
      obtain ⟨y, hy, h⟩ := Option.bind_eq_some_iff.1 h; obtain ⟨o, ho, h⟩ := Option.bind_eq_some_iff.1 h
      exact no (r := r) (rd8_no k A1 c1 l1 r o q y hy w hV hf ho) h
  rw [if_neg h8] at h
  by_cases h9 : a0 = 9
  · subst h9
    rw [if_pos rfl] at h; obtain ⟨⟨n, r, ok⟩, hf, h⟩ := Option.bind_eq_some_iff.1 h
    cases ok with
    | true =>
      rw [if_pos rfl] at h; cases h
    | false =>
      rw [if_neg (by simp)] at h
      obtain ⟨o, ho, h⟩ := Option.bind_eq_some_iff.1 h
      exact no (r := r) (rd9_no k A1 c1 l1 r o n w hV hf ho) h
  rw [if_neg h9] at h
  by_cases h11 : a0 = 11
  · subst h11
    rw [if_pos rfl] at h; obtain ⟨⟨s, s2, r, ok⟩, hf, h⟩ := Option.bind_eq_some_iff.1 h
    cases ok with
    | true =>
      rw [if_pos rfl] at h; cases h
    | false =>
      rw [if_neg (by simp)] at h
      obtain ⟨o, ho, h⟩ := Option.bind_eq_some_iff.1 h
      exact no (r := r) (rd11_no k A1 c1 l1 r o s s2 w hV hf ho) h
  rw [if_neg h11] at h
  by_cases h12 : a0 = 12
  · subst h12
    rw [if_pos rfl] at h; obtain ⟨⟨s, x, ok⟩, hf, h⟩ := Option.bind_eq_some_iff.1 h
    by_cases hl : ok = false ∨ x.length < 12
    case neg => rw [if_neg hl] at h; cases h
    rw [if_pos hl] at h; obtain ⟨o, ho, h⟩ := Option.bind_eq_some_iff.1 h
    refine no (r := l1) (rd12 w A1 c1 l1 o _ rfl ho (fun w0 hb => ?_) hV) h
    cases ok with
    | false => exact rdbp_no k A1 c1 l1 s x (fun k_ => k_ < w.heap.size) w0 (hV w0 hb) hf
    | true => exact rdbp_short k A1 c1 l1 s x (fun k_ => k_ < w.heap.size) w0 (hV w0 hb) hf (by simpa using hl)
  rw [if_neg h12] at h
  by_cases h13 : a0 = 13
  · subst h13
    rw [if_pos rfl] at h; obtain ⟨⟨s, r, ok⟩, hf, h⟩ := Option.bind_eq_some_iff.1 h
    cases ok with
    | true =>
      rw [if_pos rfl] at h; cases h
    | false =>
      rw [if_neg (by simp)] at h
      obtain ⟨o, ho, h⟩ := Option.bind_eq_some_iff.1 h
      exact no (r := r) (rd13_no k A1 c1 l1 r o s w hV hf ho) h
  rw [if_neg h13] at h
  by_cases h14 : a0 = 14
  · subst h14
    rw [if_pos rfl] at h; obtain ⟨⟨s, r, ok⟩, hf, h⟩ := Option.bind_eq_some_iff.1 h
    cases ok with
    | true =>
      rw [if_pos rfl] at h; cases h
    | false =>
      rw [if_neg (by simp)] at h
      obtain ⟨o, ho, h⟩ := Option.bind_eq_some_iff.1 h
      exact no (r := r) (rd14_no k A1 c1 l1 r o s w hV hf ho) h
  rw [if_neg h14] at h
  by_cases h15 : a0 = 15
  · subst h15
    rw [if_pos rfl] at h; obtain ⟨⟨s, b, r, ok⟩, hf, h⟩ := Option.bind_eq_some_iff.1 h
    cases ok with
    | true =>
      rw [if_pos rfl] at h; cases h
    | false =>
      rw [if_neg (by simp)] at h
      obtain ⟨o2, ho2, h⟩ := Option.bind_eq_some_iff.1 h; obtain ⟨o, ho, h⟩ := Option.bind_eq_some_iff.1 h
      exact no (r := r) (rd15_no k A1 c1 l1 r o s b o2 ho2 w hV hf ho) h
  rw [if_neg h15] at h
  by_cases h16 : a0 = 16
  · subst h16
    rw [if_pos rfl] at h; obtain ⟨⟨n, r, ok⟩, hf, h⟩ := Option.bind_eq_some_iff.1 h
    cases ok with
    | true =>
      rw [if_pos rfl] at h; obtain ⟨o, ho, h⟩ := Option.bind_eq_some_iff.1 h
      exact yes (rd16_yes k A1 c1 l1 r o n w hV hf ho) h
    | false =>
      rw [if_neg (by simp)] at h
      obtain ⟨o, ho, h⟩ := Option.bind_eq_some_iff.1 h
      exact no (r := r) (rd16_no k A1 c1 l1 r o n w hV hf ho) h
  rw [if_neg h16] at h
  by_cases h17 : a0 = 17
  · subst h17
    rw [if_pos rfl] at h; obtain ⟨⟨n, n2, r, ok⟩, hf, h⟩ := Option.bind_eq_some_iff.1 h
    cases ok with
    | true =>
      rw [if_pos rfl] at h; cases h
    | false =>
      rw [if_neg (by simp)] at h
      obtain ⟨o, ho, h⟩ := Option.bind_eq_some_iff.1 h
      exact no (r := r) (rd17_no k A1 c1 l1 r o n n2 w hV hf ho) h
  rw [if_neg h17] at h
  by_cases h18 : a0 = 18
  · subst h18
    rw [if_pos rfl] at h; obtain ⟨⟨n, r, ok⟩, hf, h⟩ := Option.bind_eq_some_iff.1 h
    cases ok with
    | true =>
      rw [if_pos rfl] at h; cases h
    | false =>
      rw [if_neg (by simp)] at h
      obtain ⟨o, ho, h⟩ := Option.bind_eq_some_iff.1 h
      exact no (r := r) (rd18_no k A1 c1 l1 r o n w hV hf ho) h
  rw [if_neg h18] at h
  by_cases h19 : a0 = 19
  · subst h19
    rw [if_pos rfl] at h; obtain ⟨⟨n, n2, r, ok⟩, hf, h⟩ := Option.bind_eq_some_iff.1 h
    cases ok with
    | true =>
      rw [if_pos rfl] at h; cases h
    | false =>
      rw [if_neg (by simp)] at h
      obtain ⟨o, ho, h⟩ := Option.bind_eq_some_iff.1 h
      exact no (r := r) (rd19_no k A1 c1 l1 r o n n2 w hV hf ho) h
  rw [if_neg h19] at h
  cases h
def impl_raw.f (a0_0 : Int) (l0_1 : List Int) : Option (Int × List Int) := (impl_own.f l0_1).bind fun t260 => (some (wrap64 (a0_0), t260))
def impl_raw.T1 : Bool × List (List Nat × List Nat) := (true, [([], []), ([0], [0]), ([1], [1]), ([], []), ([3], [3]), ([4], [4]), ([2, 5], [2, 5]), ([6, 5, 0, 1, 2, 3, 4, 5, 6], [6])])
def impl_raw.B1 : List Nat := [0, 1, 3, 0, 8, 24, 63, 127]
theorem impl_raw.tab1 : rtab .any (opsOf Tryz.f90 1) = impl_raw.T1 := by kernel_rfl
theorem impl_raw.bits1 : waitsOk impl_raw.T1.2 impl_raw.B1 = true := by kernel_rfl
theorem impl_raw.calls (a0_0 : Int) (A0_1 : Option Addr) (c0_1 : Nat) (l0_1 : List Int) (r1 : Int) (r2 : List Int) (w : World) (hr0_1 : Kd.C (Kd.int .u8) w A0_1 l0_1.length l0_1) (hc0_1 : l0_1.length ≤ c0_1) (h : impl_raw.f a0_0 l0_1 = some (r1, r2)) :
    Calls Tryz.prog 90 #[.agg #[.int .u8 a0_0, .slice A0_1 l0_1.length c0_1]] w fun e w' => ∃ v1_ : Value, e = .returned (.agg #[.int .i64 r1, v1_]) ∧ Kd.R (Kd.int .u8) 5 w' w.heap.size (fun _ => True) v1_ r2 ∧ Below w.heap.size w w' := by
  have hu101 := Tryz.underlying101; have hu38 := Tryz.underlying38; have HR0_1 := Aside0.mk hr0_1; have HC0_1 := Aside0.mk hc0_1; clear hr0_1 hc0_1; have HB := Aside0.mk (Below.refl w.heap.size w); have H : ((impl_own.f l0_1).bind fun t260 => (some (wrap64 (a0_0), t260))) = some (r1, r2) := h; clear h; replace H := Option.bind_eq_some_iff.mp H; obtain ⟨t260, A20, H⟩ := H; replace H : (some (wrap64 (a0_0), t260)) = some (r1, r2) := H; have A2 := Aside0.mk A20; clear A20
  as_aux_lemma =>
    simp only [Option.some.injEq, Prod.mk.injEq] at H
    obtain ⟨rfl, rfl⟩ := H
    go_enter Tryz.func90, Tryz.ntmps90
    try go_wp2_with (first | ((with_reducible refine gate_dst (N := 1) rfl ?_); refine box_event ?hg (N := 1) ?hd (cs := #[.int .u8 a0_0, .slice A0_1 l0_1.length c0_1]) (t := 101) ?hr ?_; (case hd => rfl); (case hg => rfl); (case hr => first | (go_simp; done) | (go_simp; rfl)); intro gb258 hg w3 hbox hb; have n0_ := Aside0.mk (below_step HW.zb hb); have n1_ := Aside0.mk (hbox); have n3_ := Aside0.mk ((by rw [hg]; exact (below_size HW.zb) : w.heap.size ≤ gb258)); clear HB; have HB := n0_; have BK258 := n1_; have GE258 := n3_; clear n0_ n1_ n3_; clear hb hbox hg) | ((with_reducible refine gate_dst (N := 2) rfl ?_); refine box_event ?hg (N := 2) ?hd (cs := #[.int .i64 0, .slice none 0 0]) (t := 38) ?hr ?_; (case hd => rfl); (case hg => rfl); (case hr => first | (go_simp; done) | (go_simp; rfl)); intro gb259 hg w4 hbox hb; have n0_ := Aside0.mk (blk_below (HW.zB BK258.out) hb); have n1_ := Aside0.mk (below_step HW.zb hb); have n2_ := Aside0.mk (hbox); have n4_ := Aside0.mk ((by rw [hg]; exact (below_size HW.zb) : w.heap.size ≤ gb259)); have n5_ := Aside0.mk ((by rw [hg]; exact Nat.ne_of_lt (blk_lt (g := gb258) (o := .cells #[.int .u8 a0_0, .slice A0_1 l0_1.length c0_1] 101 (0, 0)) (HW.zB BK258.out)) : gb258 ≠ gb259)); have n6_ := Aside0.mk ((by rw [hg]; exact Nat.ne_of_gt (blk_lt (g := gb258) (o := .cells #[.int .u8 a0_0, .slice A0_1 l0_1.length c0_1] 101 (0, 0)) (HW.zB BK258.out)) : gb259 ≠ gb258)); clear BK258; clear HB; have BK258 := n0_; have HB := n1_; have BK259 := n2_; have GE259 := n4_; have NB258_259 := n5_; have NB259_258 := n6_; clear n0_ n1_ n2_ n4_ n5_ n6_; clear hb hbox hg))
    replace BK258 := Aside0.mk (blk_drew BK258.out); replace BK259 := Aside0.mk (blk_drew BK259.out); replace HB := Aside0.mk (below_drew1 HB.out)
    refine start_ (n := 8) (S := fun w' => w'.cell? ⟨gb258, 0, none⟩ = some (.int .u8 a0_0) ∧ w'.cell? ⟨gb258, 1, none⟩ = some (.slice A0_1 l0_1.length c0_1)) (ds := []) #[ff,ff,ff,ff,ff,ff,ff,ff] (by kernel_rfl) rfl rfl (HW.k2 BK258.out) (fun hHeld => ?_); refine with_tabW impl_raw.tab1 impl_raw.bits1 (fun HT_ HW_ => ?_)
    generalize w4.drew = w5 at BK258 BK259 HB hHeld ⊢
    refine HW.pz (i := 0) (N := some 3) #[tt,ff,ff,ff,ff,ff,ff,ff] ?_ (hc := any_of HT_.out (by kernel_rfl))
    refine HW.pz (i := 3) (N := some 6) #[tt,ff,ff,tt,ff,ff,ff,ff] ?_ (hc := any_of HT_.out (by kernel_rfl))
    refine take_ (i := 1) (N := some 4) (v := ?_) (a' := ?_) #[tt,tt,ff,tt,ff,ff,ff,ff] rfl rfl (take_ofW HT_.out HW_.out (by kernel_rfl)) (fun _ _ _ h => h) (Or.inl ⟨by rfl, ?_⟩) hHeld ?_ ?_
    rotate_left
    · rintro w' ⟨s0, s1⟩
      go_simp
      with_reducible rfl
    rotate_left
    · exact HW.pt
    refine HW.pz (i := 2) (N := some 5) #[tt,tt,tt,tt,ff,ff,ff,ff] ?_ (hc := any_of HT_.out (by kernel_rfl))
    refine take_ (i := 4) (N := some 7) (v := ?_) (a' := ?_) #[tt,tt,tt,tt,tt,ff,ff,ff] rfl rfl (take_ofW HT_.out HW_.out (by kernel_rfl)) (fun _ _ _ h => h) (Or.inl ⟨by rfl, ?_⟩) hHeld ?_ ?_
    rotate_left
    · rintro w' ⟨s0, s1⟩
      go_simp
      with_reducible rfl
    rotate_left
    · exact HW.pt
    refine one_ (i := 5) (N := some 8) #[tt,tt,tt,tt,tt,tt,ff,ff] rfl rfl (one_of HT_.out (by kernel_rfl)) (by decide) (fun K hK => ?_)
    refine goes_ Tryz.func53 (by kernel_rfl) rfl #[.slice A0_1 l0_1.length c0_1] (by rfl) rfl rfl HW.mt ?_
    with_reducible refine (impl_own.calls _ _ l0_1 t260 _ ?side1 ?side2 A2.out).mono ?_
    (case side1 => repeat (first | exact (Kd.C_below HR0_1.out HB.out) | (with_reducible refine Kd.C_alloc ?_ _) | (with_reducible refine Kd.C_drewN ?_ _) | (with_reducible refine Kd.C_drew ?_)))
    (case side2 => exact HC0_1.out)
    rintro e w6 ⟨v261, rfl, ho0, hb⟩
    refine ⟨_, rfl, ?_⟩
    have HO262 := Aside0.mk (Kd.R_lower ho0 (below_size HW.zb)); replace BK258 := Aside0.mk (blk_below (HW.zB BK258.out) hb); replace BK259 := Aside0.mk (blk_below (HW.zB BK259.out) hb); replace HB := Aside0.mk (below_step HW.zb hb)
    (try clear hb)
    (try clear hb2)
    (try clear ho0)
    obtain ⟨Ao7, co7, eo7⟩ := Kd.R_slice HO262.out
    (first | subst eo7 | (injection eo7 with f1_ f2_ f3_; have f4_ := f1_.symm; have f5_ := f3_.symm; clear f1_ f2_ f3_; subst f4_; subst f5_))
    refine hK.out _ _ (HW.k2 BK258.out) (fun hHeld => ?_)
    clear hK K
    refine HW.nz (N := (some 8)) ?_
    refine HW.pz (i := 6) (N := some 9) #[tt,tt,tt,tt,tt,tt,tt,ff] ?_ (hc := any_of HT_.out (by kernel_rfl))
    refine one_ (i := 7) (N := none) #[tt,tt,tt,tt,tt,tt,tt,tt] rfl rfl (one_of HT_.out (by kernel_rfl)) (by decide) (fun K hK => ?_)
    have hs8 : w6.cell? ⟨gb259, 0, none⟩ = some (.int .i64 0) := (blk_cell BK259.out 0).trans rfl; have hfs8 := blk_frozen BK259.out 0; have hns8_0 := NB258_259.out; have hms8_0 := NB259_258.out; have hs9 : w6.cell? ⟨gb259, 1, none⟩ = some (.slice none 0 0) := (blk_cell BK259.out 1).trans rfl; have hfs9 := blk_frozen BK259.out 1; have hns9_0 := NB258_259.out; have hms9_0 := NB259_258.out
    refine skip_ (w1 := ?_) (by rfl) rfl ?_ ?_
    rotate_left
    · go_simp
      rfl
    refine hK.out _ _ ⟨((cell_far (p := ⟨gb259, _, none⟩) NB258_259.out _).trans (((cell_far (p := ⟨gb259, _, none⟩) NB258_259.out _).trans (hHeld.1)))), ((cell_far (p := ⟨gb259, _, none⟩) NB258_259.out _).trans (((cell_far (p := ⟨gb259, _, none⟩) NB258_259.out _).trans (hHeld.2))))⟩ (fun hHeld => ?_)
    clear hK K
    refine done_ (done_of HT_.out (by kernel_rfl)) ?_
    try go_wp2
    refine bodyPost_ret (results_cell_row rfl _ _ gb259 38 #[.int .i64 (wrap64 (a0_0)), .slice Ao7 t260.length co7] (0, 0) _ rfl (by (with_reducible repeat (first | refine blk_drewN ?_ _ | refine blk_drew ?_ | refine blk_alloc ?_ _)); refine blk_put (cs := #[.int .i64 (wrap64 (a0_0)), .slice none 0 0]) ?_ 1 _ rfl; (with_reducible repeat (first | refine blk_drewN ?_ _ | refine blk_drew ?_ | refine blk_alloc ?_ _)); refine blk_put (cs := #[.int .i64 0, .slice none 0 0]) ?_ 0 _ rfl; exact HW.zB BK259.out) Tryz.underlying38 rfl (by kernel_rfl)) rfl ?_
    exact ⟨_, rfl, by (with_reducible repeat (first | apply Kd.R_alloc | apply Kd.R_drewN | apply Kd.R_drew)); exact Kd.R_mono (Kd.R_far (p := ⟨gb259, 1, none⟩) (Kd.R_far (p := ⟨gb259, 0, none⟩) (Kd.R_types HO262.out BK259.out (by decide)) (fun _ hk => hk.2) (.int .i64 (wrap64 (a0_0)))) (fun _ hk => hk.2) (.slice Ao7 t260.length co7)) (fun _ hk => trivial), HW.zb⟩
def impl_code.f (a0 : Option Int) : Option (Int) := if a0.isNone = true then (some 0) else (none)
theorem impl_code.calls (a0 : Option Int) (r : Int) (w : World) (h : impl_code.f a0 = some r) :
    Calls Tryz.prog 92 #[errW a0] w fun e w' => e = .returned (.int .i64 r) ∧ Below w.heap.size w w' := by
  have hu177 := Tryz.underlying177; have hu181 := Tryz.underlying181; have hu150 := Tryz.underlying150; have HB := Aside0.mk (Below.refl w.heap.size w); have H : (if a0.isNone = true then (some 0) else (none)) = some r := h; clear h
  rcases a0 with _ | q263
  rotate_left
  · have H1 : (none) = some r := by rw [if_neg (show ¬ (some q263).isNone = true by simp)] at H; exact H
    clear H; have H := H1; clear H1
    simp only [errW_none, errW_some]
    exact absurd H (by simp)
  have H1 : (some 0) = some r := by rw [if_pos (show (none : Option Int).isNone = true by rfl)] at H; exact H
  clear H; have H := H1; clear H1
  simp only [errW_none, errW_some]
  as_aux_lemma =>
    obtain rfl := Option.some.inj H
    go_enter Tryz.func92, Tryz.ntmps92
    go_wp2
    go_ret
    exact ⟨rfl, HW.zb⟩
end Go.Proofs.YtanecebppagakaaGreatDoor.PSx
