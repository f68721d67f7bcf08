/- Errors as told, of this seat: none, or a code and a text; what its sentinels hold; errors.Is and impl.code, walked by hand for each. Conditions: as each theorem states them. -/
import Derived.Test.YtbfhpjkahobgnaaGreatDoorProg
import Derived.Test.YtbfhpjkahobgnaaGreatDoorHW
import Derived.LaidEql
import Derived.Stop.Asserts
import Derived.WalkKit
import Derived.KernelRfl
import Derived.Tactics
import Derived.Below
import Derived.RowKit3
import Derived.Deep.LoopGhost
namespace Go.Proofs.YtbfhpjkahobgnaaGreatDoor.Er
open Go.RowKit Go.Proofs.YtbfhpjkahobgnaaGreatDoorW.PrintWords Go.Proofs.YtbfhpjkahobgnaaGreatDoorW.PrintLast Go.Proofs.YtbfhpjkahobgnaaGreatDoorW.PrintMore
open Go.Extern.Stop Go.Stop Go.Extern
set_option linter.unusedVariables false
set_option linter.unusedSimpArgs false
/-- The sentinels' variables. -/
def sents : List Nat := [0, 1, 2, 3]
/-- What they hold: pointers to texts, no two the same. -/
structure LaidE (ρ : Nat → Addr) (w : World) : Prop where
  cell : ∀ g, g ∈ sents → w.cell? ⟨g, 0, none⟩ = some (.iface 260 (.pointer (some (ρ g))))
  row : ∀ g, g ∈ sents → ∃ c t, w.heap[(ρ g).block]? = some (.cells c t (0, 0))
  ne : ∀ g, g ∈ sents → ∀ h, h ∈ sents → g ≠ h → ρ g ≠ ρ h
theorem cell_lt {w : World} {b : Nat} {v : Value} (h : w.cell? ⟨b, 0, none⟩ = some v) : b < w.heap.size := by
  rcases Nat.lt_or_ge b w.heap.size with g | g
  · exact g
  · simp [World.cell?, Array.getElem?_eq_none g] at h
theorem LaidE.below {ρ : Nat → Addr} {w w' : World} (h : LaidE ρ w) (hb : Below w.heap.size w w') : LaidE ρ w' where
  cell := fun g hg => (hb.cell (p := ⟨g, 0, none⟩) (cell_lt (h.cell g hg))).trans (h.cell g hg)
  row := fun g hg => by
    obtain ⟨c, t, hr⟩ := h.row g hg
    exact ⟨c, t, blk_below hr hb⟩
  ne := h.ne
/-- A value that is a slice. -/
def IsSl (v : Value) : Prop := ∃ a n c, v = .slice a n c
theorem isl_V {α : Type} {K : Kd α} {e : TypeId} {w : World} {b : Nat} {ok : Nat → Prop} {v : Value} {l : List α} (h : Kd.V K e w b ok v l) : IsSl v := by
  obtain ⟨a, c, h⟩ := Kd.V_slice h
  exact ⟨a, _, c, h⟩
/-- A value of an interface as an error that is told. -/
inductive ErrR (ρ : Nat → Addr) : Value → Option (Int × ByteArray) → Prop
  | nil : ErrR ρ .nilIface Option.none
  | few (y z : Value) (hy : IsSl y) (hz : IsSl z) : ErrR ρ (.iface 91 (.agg #[y, z])) (some (91, ⟨#[]⟩))
  | val (x : ByteArray) : ErrR ρ (.iface 92 (.string x)) (some (92, x))
  | mal (x : ByteArray) : ErrR ρ (.iface 93 (.string x)) (some (93, x))
  | dep (x : ByteArray) (t : Int) : ErrR ρ (.iface 95 (.agg #[.string x, .int .u8 t])) (some (95, x))
  | sent (g : Nat) (c : Int) (hg : g ∈ sents) (hc : c = -(g : Int) - 1) : ErrR ρ (.iface 260 (.pointer (some (ρ g)))) (some (c, ⟨#[]⟩))
/-- Where no sentinel is told apart. -/
def rho0 : Nat → Addr := fun _ => ⟨0, 0, none⟩
theorem ErrR.nil_ {ρ : Nat → Addr} {v : Value} (h : ErrR ρ v Option.none) : v = .nilIface := by cases h; rfl
theorem ErrR.some_ {ρ : Nat → Addr} {v : Value} {t : Option (Int × ByteArray)} (h : ErrR ρ v t) (ht : ¬ t.isNone = true) : ∃ T x, v = .iface T x := by
  cases h
  · exact absurd rfl ht
  all_goals exact ⟨_, _, rfl⟩
theorem isTypeOf (v : Value) (w : World) : (Extern.ReflectliteType.typeOf #[.iface 260 v]).run Tryz.prog w = .ok (.iface 196 (.agg #[.pointer (some ⟨10, 260, none⟩)])) w := by kernel_rfl
theorem cmp_run (w : World) : Sem.run Tryz.prog (callFunc 263 #[.agg #[.pointer (some ⟨10, 260, none⟩)]]) w = .ok (.value (.bool true)) w := by
  rw [run_callFunc_extern Tryz.func263 (by kernel_rfl) (by kernel_rfl) (by kernel_rfl) (e := Extern.ReflectliteType.method fun t => do Extern.Rtype.noPackHeld "Comparable" t; pure (.bool (← typeInfo t).comparable)) (by kernel_rfl)]
  kernel_rfl
theorem isMethodComparable (v : Value) (w : World) : (Go.method 420 196 v "Comparable").run Tryz.prog w = .ok (263, v) w := by kernel_rfl
theorem isComp : (Tryz.prog.info? 260).map (·.comparable) = some true := by kernel_rfl
theorem isSize : (Tryz.prog.info? 262).map (·.size) = some 1 := by kernel_rfl
theorem noIsE (v : Value) (xT : TypeId) (w : World) : (Instr.typeAssert (.iface 260 v) xT 198 true).run Tryz.prog w = .ok (.tuple #[.nilIface, .bool false]) w := run_typeAssert_lacksB Tryz.underlying198 (by kernel_rfl) (by kernel_rfl) v xT w
theorem noUnwrapE (v : Value) (xT : TypeId) (w : World) : (Instr.typeAssert (.iface 260 v) xT 201 true).run Tryz.prog w = .ok (.tuple #[.nilIface, .bool false]) w := run_typeAssert_lacksB Tryz.underlying201 (by kernel_rfl) (by kernel_rfl) v xT w
theorem noUnwrapsE (v : Value) (xT : TypeId) (w : World) : (Instr.typeAssert (.iface 260 v) xT 202 true).run Tryz.prog w = .ok (.tuple #[.nilIface, .bool false]) w := run_typeAssert_lacksB Tryz.underlying202 (by kernel_rfl) (by kernel_rfl) v xT w
/-- errors.Is(x, x), x a pointer to an errors.errorString. -/
theorem is_same (a : Addr) (w : World) :
    Calls Tryz.prog 43 #[.iface 260 (.pointer (some a)), .iface 260 (.pointer (some a))] w fun e w' => e = .returned (.bool true) ∧ w' = w := by
  obtain ⟨i, hi, hcmp⟩ := Option.map_eq_some_iff.1 isComp
  obtain ⟨j, hj, hjs⟩ := Option.map_eq_some_iff.1 isSize
  have h8 := @run_callFunc_extern Tryz.prog 83 _ Extern.ReflectliteType.typeOf Tryz.func83 (by kernel_rfl) (by kernel_rfl) (by kernel_rfl) (by kernel_rfl)
  have h32 := cmp_run
  have tT := isTypeOf
  have mR := isMethodComparable
  have heq := run_eql_iface_ptr_same (P := Tryz.prog) w a Tryz.underlying59 Tryz.underlying260 hi hcmp hj
  go_enter Tryz.func43, Tryz.ntmps43
  go_wp2
  refine wp_loop_rounds 1 ?_
  rw [rounds_succ]
  go_wp2
  go_ret
  exact ⟨rfl, rfl⟩
/-- errors.Is(x, y), two pointers. -/
theorem is_other (a b : Addr) (ca cb : Array Value) (ta tb : TypeId) (w : World) (hne : a ≠ b) (ha : w.heap[a.block]? = some (.cells ca ta (0, 0))) (hb : w.heap[b.block]? = some (.cells cb tb (0, 0))) :
    Calls Tryz.prog 43 #[.iface 260 (.pointer (some a)), .iface 260 (.pointer (some b))] w fun e w' => e = .returned (.bool false) ∧ w' = w := by
  obtain ⟨i, hi, hcmp⟩ := Option.map_eq_some_iff.1 isComp
  obtain ⟨j, hj, hjs⟩ := Option.map_eq_some_iff.1 isSize
  have h8 := @run_callFunc_extern Tryz.prog 83 _ Extern.ReflectliteType.typeOf Tryz.func83 (by kernel_rfl) (by kernel_rfl) (by kernel_rfl) (by kernel_rfl)
  have h32 := cmp_run
  have tT := isTypeOf
  have mR := isMethodComparable
  have nE := noIsE
  have uE := noUnwrapE
  have vE := noUnwrapsE
  have heq := run_eql_iface_ptr_other (P := Tryz.prog) w Tryz.underlying59 Tryz.underlying260 hi hcmp hj (by rw [hjs]; decide) hne ha hb
  go_enter Tryz.func43, Tryz.ntmps43
  go_wp2
  refine wp_loop_rounds 1 ?_
  rw [rounds_succ]
  go_wp2
  go_ret
  exact ⟨rfl, rfl⟩
/-- The code of an error. -/
def code : Option (Int × ByteArray) → Option Int
  | none => some 0
  | some (c, x) => if c = 91 then some 1 else if c = 92 then (if x.toList = [100, 111, 99, 117, 109, 101, 110, 116, 32, 111, 114, 32, 97, 114, 114, 97, 121, 32, 108, 101, 110, 103, 116, 104, 32, 105, 115, 32, 105, 110, 118, 97, 108, 105, 100] then some 2 else if x.toList = [100, 111, 99, 117, 109, 101, 110, 116, 32, 111, 114, 32, 97, 114, 114, 97, 121, 32, 101, 110, 100, 32, 105, 115, 32, 109, 105, 115, 115, 105, 110, 103, 32, 110, 117, 108, 108, 32, 98, 121, 116, 101] then some 3 else some 4) else if c = 93 then some 5 else if c = 95 then some 10 else if c = -1 then some 7 else if c = -2 then some 7 else if c = -3 then some 8 else if c = -4 then some 11 else none
set_option maxHeartbeats 4000000 in
set_option maxRecDepth 100000 in
theorem code_nil (w : World) :
    Calls Tryz.prog 24 #[.nilIface] w fun e w' => e = .returned (.int .i64 0) ∧ Below w.heap.size w w' := by
  go_enter Tryz.func24, Tryz.ntmps24
  go_wp2
  go_ret
  exact ⟨rfl, Below.refl _ _⟩
set_option maxHeartbeats 4000000 in
set_option maxRecDepth 100000 in
theorem code_few (a : Option Addr) (n c : Nat) (a2 : Option Addr) (n2 c2 : Nat) (w : World) :
    Calls Tryz.prog 24 #[.iface 91 (.agg #[.slice a n c, .slice a2 n2 c2])] w fun e w' => e = .returned (.int .i64 1) ∧ Below w.heap.size w w' := by
  have t0 : ∀ W : World, (Instr.typeAssert (.iface 91 (.agg #[.slice a n c, .slice a2 n2 c2])) 59 91 true).run Tryz.prog W = .ok (.tuple #[.agg #[.slice a n c, .slice a2 n2 c2], .bool true]) W := fun W => by rfl
  go_enter Tryz.func24, Tryz.ntmps24
  go_wp2
  go_ret
  exact ⟨rfl, below_alloc (Below.refl _ _) _⟩
set_option maxHeartbeats 4000000 in
set_option maxRecDepth 100000 in
theorem code_val0 (x : ByteArray) (h1 : x.toList = [100, 111, 99, 117, 109, 101, 110, 116, 32, 111, 114, 32, 97, 114, 114, 97, 121, 32, 108, 101, 110, 103, 116, 104, 32, 105, 115, 32, 105, 110, 118, 97, 108, 105, 100]) (w : World) :
    Calls Tryz.prog 24 #[.iface 92 (.string x)] w fun e w' => e = .returned (.int .i64 2) ∧ Below w.heap.size w w' := by
  have t0 : ∀ W : World, (Instr.typeAssert (.iface 92 (.string x)) 59 91 true).run Tryz.prog W = .ok (.tuple #[.agg #[.slice none 0 0, .slice none 0 0], .bool false]) W := fun W => by kernel_rfl
  have t1 : ∀ W : World, (Instr.typeAssert (.iface 92 (.string x)) 59 92 true).run Tryz.prog W = .ok (.tuple #[.string x, .bool true]) W := fun W => by rfl
  have b0 : (x.toList == [100, 111, 99, 117, 109, 101, 110, 116, 32, 111, 114, 32, 97, 114, 114, 97, 121, 32, 108, 101, 110, 103, 116, 104, 32, 105, 115, 32, 105, 110, 118, 97, 108, 105, 100]) = true := beq_iff_eq.mpr h1
  clear h1
  go_enter Tryz.func24, Tryz.ntmps24
  go_wp2
  go_ret
  exact ⟨rfl, Below.refl _ _⟩
set_option maxHeartbeats 4000000 in
set_option maxRecDepth 100000 in
theorem code_val1 (x : ByteArray) (h1 : ¬ x.toList = [100, 111, 99, 117, 109, 101, 110, 116, 32, 111, 114, 32, 97, 114, 114, 97, 121, 32, 108, 101, 110, 103, 116, 104, 32, 105, 115, 32, 105, 110, 118, 97, 108, 105, 100]) (h2 : x.toList = [100, 111, 99, 117, 109, 101, 110, 116, 32, 111, 114, 32, 97, 114, 114, 97, 121, 32, 101, 110, 100, 32, 105, 115, 32, 109, 105, 115, 115, 105, 110, 103, 32, 110, 117, 108, 108, 32, 98, 121, 116, 101]) (w : World) :
    Calls Tryz.prog 24 #[.iface 92 (.string x)] w fun e w' => e = .returned (.int .i64 3) ∧ Below w.heap.size w w' := by
  have t0 : ∀ W : World, (Instr.typeAssert (.iface 92 (.string x)) 59 91 true).run Tryz.prog W = .ok (.tuple #[.agg #[.slice none 0 0, .slice none 0 0], .bool false]) W := fun W => by kernel_rfl
  have t1 : ∀ W : World, (Instr.typeAssert (.iface 92 (.string x)) 59 92 true).run Tryz.prog W = .ok (.tuple #[.string x, .bool true]) W := fun W => by rfl
  have b0 : (x.toList == [100, 111, 99, 117, 109, 101, 110, 116, 32, 111, 114, 32, 97, 114, 114, 97, 121, 32, 108, 101, 110, 103, 116, 104, 32, 105, 115, 32, 105, 110, 118, 97, 108, 105, 100]) = false := beq_eq_false_iff_ne.mpr h1
  have b1 : (x.toList == [100, 111, 99, 117, 109, 101, 110, 116, 32, 111, 114, 32, 97, 114, 114, 97, 121, 32, 101, 110, 100, 32, 105, 115, 32, 109, 105, 115, 115, 105, 110, 103, 32, 110, 117, 108, 108, 32, 98, 121, 116, 101]) = true := beq_iff_eq.mpr h2
  clear h1 h2
  go_enter Tryz.func24, Tryz.ntmps24
  go_wp2
  go_ret
  exact ⟨rfl, Below.refl _ _⟩
set_option maxHeartbeats 4000000 in
set_option maxRecDepth 100000 in
theorem code_val2 (x : ByteArray) (h1 : ¬ x.toList = [100, 111, 99, 117, 109, 101, 110, 116, 32, 111, 114, 32, 97, 114, 114, 97, 121, 32, 108, 101, 110, 103, 116, 104, 32, 105, 115, 32, 105, 110, 118, 97, 108, 105, 100]) (h2 : ¬ x.toList = [100, 111, 99, 117, 109, 101, 110, 116, 32, 111, 114, 32, 97, 114, 114, 97, 121, 32, 101, 110, 100, 32, 105, 115, 32, 109, 105, 115, 115, 105, 110, 103, 32, 110, 117, 108, 108, 32, 98, 121, 116, 101]) (w : World) :
    Calls Tryz.prog 24 #[.iface 92 (.string x)] w fun e w' => e = .returned (.int .i64 4) ∧ Below w.heap.size w w' := by
  have t0 : ∀ W : World, (Instr.typeAssert (.iface 92 (.string x)) 59 91 true).run Tryz.prog W = .ok (.tuple #[.agg #[.slice none 0 0, .slice none 0 0], .bool false]) W := fun W => by kernel_rfl
  have t1 : ∀ W : World, (Instr.typeAssert (.iface 92 (.string x)) 59 92 true).run Tryz.prog W = .ok (.tuple #[.string x, .bool true]) W := fun W => by rfl
  have b0 : (x.toList == [100, 111, 99, 117, 109, 101, 110, 116, 32, 111, 114, 32, 97, 114, 114, 97, 121, 32, 108, 101, 110, 103, 116, 104, 32, 105, 115, 32, 105, 110, 118, 97, 108, 105, 100]) = false := beq_eq_false_iff_ne.mpr h1
  have b1 : (x.toList == [100, 111, 99, 117, 109, 101, 110, 116, 32, 111, 114, 32, 97, 114, 114, 97, 121, 32, 101, 110, 100, 32, 105, 115, 32, 109, 105, 115, 115, 105, 110, 103, 32, 110, 117, 108, 108, 32, 98, 121, 116, 101]) = false := beq_eq_false_iff_ne.mpr h2
  clear h1 h2
  go_enter Tryz.func24, Tryz.ntmps24
  go_wp2
  go_ret
  exact ⟨rfl, Below.refl _ _⟩
set_option maxHeartbeats 4000000 in
set_option maxRecDepth 100000 in
theorem code_mal (x : ByteArray) (w : World) :
    Calls Tryz.prog 24 #[.iface 93 (.string x)] w fun e w' => e = .returned (.int .i64 5) ∧ Below w.heap.size w w' := by
  have t0 : ∀ W : World, (Instr.typeAssert (.iface 93 (.string x)) 59 91 true).run Tryz.prog W = .ok (.tuple #[.agg #[.slice none 0 0, .slice none 0 0], .bool false]) W := fun W => by kernel_rfl
  have t1 : ∀ W : World, (Instr.typeAssert (.iface 93 (.string x)) 59 92 true).run Tryz.prog W = .ok (.tuple #[.string ⟨#[]⟩, .bool false]) W := fun W => by kernel_rfl
  have t2 : ∀ W : World, (Instr.typeAssert (.iface 93 (.string x)) 59 93 true).run Tryz.prog W = .ok (.tuple #[.string x, .bool true]) W := fun W => by rfl
  go_enter Tryz.func24, Tryz.ntmps24
  go_wp2
  go_ret
  exact ⟨rfl, Below.refl _ _⟩
set_option maxHeartbeats 4000000 in
set_option maxRecDepth 100000 in
theorem code_dep (x : ByteArray) (t : Int) (w : World) :
    Calls Tryz.prog 24 #[.iface 95 (.agg #[.string x, .int .u8 t])] w fun e w' => e = .returned (.int .i64 10) ∧ Below w.heap.size w w' := by
  have t0 : ∀ W : World, (Instr.typeAssert (.iface 95 (.agg #[.string x, .int .u8 t])) 59 91 true).run Tryz.prog W = .ok (.tuple #[.agg #[.slice none 0 0, .slice none 0 0], .bool false]) W := fun W => by kernel_rfl
  have t1 : ∀ W : World, (Instr.typeAssert (.iface 95 (.agg #[.string x, .int .u8 t])) 59 92 true).run Tryz.prog W = .ok (.tuple #[.string ⟨#[]⟩, .bool false]) W := fun W => by kernel_rfl
  have t2 : ∀ W : World, (Instr.typeAssert (.iface 95 (.agg #[.string x, .int .u8 t])) 59 93 true).run Tryz.prog W = .ok (.tuple #[.string ⟨#[]⟩, .bool false]) W := fun W => by kernel_rfl
  have t3 : ∀ W : World, (Instr.typeAssert (.iface 95 (.agg #[.string x, .int .u8 t])) 59 95 true).run Tryz.prog W = .ok (.tuple #[.agg #[.string x, .int .u8 t], .bool true]) W := fun W => by rfl
  go_enter Tryz.func24, Tryz.ntmps24
  go_wp2
  go_ret
  exact ⟨rfl, below_alloc (Below.refl _ _) _⟩
set_option maxHeartbeats 4000000 in
set_option maxRecDepth 100000 in
theorem code_sent0 (ρ : Nat → Addr) (w : World) (hL : LaidE ρ w) :
    Calls Tryz.prog 24 #[.iface 260 (.pointer (some (ρ 0)))] w fun e w' => e = .returned (.int .i64 7) ∧ Below w.heap.size w w' := by
  have g0 := hL.cell 0 (by decide)
  obtain ⟨c0, t0x, r0⟩ := hL.row 0 (by decide)
  have t0 : ∀ W : World, (Instr.typeAssert (.iface 260 (.pointer (some (ρ 0)))) 59 91 true).run Tryz.prog W = .ok (.tuple #[.agg #[.slice none 0 0, .slice none 0 0], .bool false]) W := fun W => by kernel_rfl
  have t1 : ∀ W : World, (Instr.typeAssert (.iface 260 (.pointer (some (ρ 0)))) 59 92 true).run Tryz.prog W = .ok (.tuple #[.string ⟨#[]⟩, .bool false]) W := fun W => by kernel_rfl
  have t2 : ∀ W : World, (Instr.typeAssert (.iface 260 (.pointer (some (ρ 0)))) 59 93 true).run Tryz.prog W = .ok (.tuple #[.string ⟨#[]⟩, .bool false]) W := fun W => by kernel_rfl
  have t3 : ∀ W : World, (Instr.typeAssert (.iface 260 (.pointer (some (ρ 0)))) 59 95 true).run Tryz.prog W = .ok (.tuple #[.agg #[.string ⟨#[]⟩, .int .u8 0], .bool false]) W := fun W => by kernel_rfl
  go_enter Tryz.func24, Tryz.ntmps24
  go_wp2_with (first | (go_at_call 43; (with_reducible refine (is_same _ _).mono ?_); rintro e w1 ⟨rfl, rfl⟩))
  go_ret
  exact ⟨rfl, Below.refl _ _⟩
set_option maxHeartbeats 4000000 in
set_option maxRecDepth 100000 in
theorem code_sent1 (ρ : Nat → Addr) (w : World) (hL : LaidE ρ w) :
    Calls Tryz.prog 24 #[.iface 260 (.pointer (some (ρ 1)))] w fun e w' => e = .returned (.int .i64 7) ∧ Below w.heap.size w w' := by
  have g0 := hL.cell 0 (by decide)
  obtain ⟨c0, t0x, r0⟩ := hL.row 0 (by decide)
  have g1 := hL.cell 1 (by decide)
  obtain ⟨c1, t1x, r1⟩ := hL.row 1 (by decide)
  have n0 := hL.ne 1 (by decide) 0 (by decide) (by decide)
  have t0 : ∀ W : World, (Instr.typeAssert (.iface 260 (.pointer (some (ρ 1)))) 59 91 true).run Tryz.prog W = .ok (.tuple #[.agg #[.slice none 0 0, .slice none 0 0], .bool false]) W := fun W => by kernel_rfl
  have t1 : ∀ W : World, (Instr.typeAssert (.iface 260 (.pointer (some (ρ 1)))) 59 92 true).run Tryz.prog W = .ok (.tuple #[.string ⟨#[]⟩, .bool false]) W := fun W => by kernel_rfl
  have t2 : ∀ W : World, (Instr.typeAssert (.iface 260 (.pointer (some (ρ 1)))) 59 93 true).run Tryz.prog W = .ok (.tuple #[.string ⟨#[]⟩, .bool false]) W := fun W => by kernel_rfl
  have t3 : ∀ W : World, (Instr.typeAssert (.iface 260 (.pointer (some (ρ 1)))) 59 95 true).run Tryz.prog W = .ok (.tuple #[.agg #[.string ⟨#[]⟩, .int .u8 0], .bool false]) W := fun W => by kernel_rfl
  go_enter Tryz.func24, Tryz.ntmps24
  go_wp2_with (first | (go_at_call 43; (with_reducible refine (is_same _ _).mono ?_); rintro e w1 ⟨rfl, rfl⟩) | (go_at_call 43; (with_reducible refine (is_other _ _ _ _ _ _ _ n0 r1 r0).mono ?_); rintro e w1 ⟨rfl, rfl⟩))
  go_ret
  exact ⟨rfl, Below.refl _ _⟩
set_option maxHeartbeats 4000000 in
set_option maxRecDepth 100000 in
theorem code_sent2 (ρ : Nat → Addr) (w : World) (hL : LaidE ρ w) :
    Calls Tryz.prog 24 #[.iface 260 (.pointer (some (ρ 2)))] w fun e w' => e = .returned (.int .i64 8) ∧ Below w.heap.size w w' := by
  have g0 := hL.cell 0 (by decide)
  obtain ⟨c0, t0x, r0⟩ := hL.row 0 (by decide)
  have g1 := hL.cell 1 (by decide)
  obtain ⟨c1, t1x, r1⟩ := hL.row 1 (by decide)
  have g2 := hL.cell 2 (by decide)
  obtain ⟨c2, t2x, r2⟩ := hL.row 2 (by decide)
  have n0 := hL.ne 2 (by decide) 0 (by decide) (by decide)
  have n1 := hL.ne 2 (by decide) 1 (by decide) (by decide)
  have t0 : ∀ W : World, (Instr.typeAssert (.iface 260 (.pointer (some (ρ 2)))) 59 91 true).run Tryz.prog W = .ok (.tuple #[.agg #[.slice none 0 0, .slice none 0 0], .bool false]) W := fun W => by kernel_rfl
  have t1 : ∀ W : World, (Instr.typeAssert (.iface 260 (.pointer (some (ρ 2)))) 59 92 true).run Tryz.prog W = .ok (.tuple #[.string ⟨#[]⟩, .bool false]) W := fun W => by kernel_rfl
  have t2 : ∀ W : World, (Instr.typeAssert (.iface 260 (.pointer (some (ρ 2)))) 59 93 true).run Tryz.prog W = .ok (.tuple #[.string ⟨#[]⟩, .bool false]) W := fun W => by kernel_rfl
  have t3 : ∀ W : World, (Instr.typeAssert (.iface 260 (.pointer (some (ρ 2)))) 59 95 true).run Tryz.prog W = .ok (.tuple #[.agg #[.string ⟨#[]⟩, .int .u8 0], .bool false]) W := fun W => by kernel_rfl
  go_enter Tryz.func24, Tryz.ntmps24
  go_wp2_with (first | (go_at_call 43; (with_reducible refine (is_same _ _).mono ?_); rintro e w1 ⟨rfl, rfl⟩) | (go_at_call 43; (with_reducible refine (is_other _ _ _ _ _ _ _ n0 r2 r0).mono ?_); rintro e w1 ⟨rfl, rfl⟩) | (go_at_call 43; (with_reducible refine (is_other _ _ _ _ _ _ _ n1 r2 r1).mono ?_); rintro e w1 ⟨rfl, rfl⟩))
  go_ret
  exact ⟨rfl, Below.refl _ _⟩
set_option maxHeartbeats 4000000 in
set_option maxRecDepth 100000 in
theorem code_sent3 (ρ : Nat → Addr) (w : World) (hL : LaidE ρ w) :
    Calls Tryz.prog 24 #[.iface 260 (.pointer (some (ρ 3)))] w fun e w' => e = .returned (.int .i64 11) ∧ Below w.heap.size w w' := by
  have g0 := hL.cell 0 (by decide)
  obtain ⟨c0, t0x, r0⟩ := hL.row 0 (by decide)
  have g1 := hL.cell 1 (by decide)
  obtain ⟨c1, t1x, r1⟩ := hL.row 1 (by decide)
  have g2 := hL.cell 2 (by decide)
  obtain ⟨c2, t2x, r2⟩ := hL.row 2 (by decide)
  have g3 := hL.cell 3 (by decide)
  obtain ⟨c3, t3x, r3⟩ := hL.row 3 (by decide)
  have n0 := hL.ne 3 (by decide) 0 (by decide) (by decide)
  have n1 := hL.ne 3 (by decide) 1 (by decide) (by decide)
  have n2 := hL.ne 3 (by decide) 2 (by decide) (by decide)
  have t0 : ∀ W : World, (Instr.typeAssert (.iface 260 (.pointer (some (ρ 3)))) 59 91 true).run Tryz.prog W = .ok (.tuple #[.agg #[.slice none 0 0, .slice none 0 0], .bool false]) W := fun W => by kernel_rfl
  have t1 : ∀ W : World, (Instr.typeAssert (.iface 260 (.pointer (some (ρ 3)))) 59 92 true).run Tryz.prog W = .ok (.tuple #[.string ⟨#[]⟩, .bool false]) W := fun W => by kernel_rfl
  have t2 : ∀ W : World, (Instr.typeAssert (.iface 260 (.pointer (some (ρ 3)))) 59 93 true).run Tryz.prog W = .ok (.tuple #[.string ⟨#[]⟩, .bool false]) W := fun W => by kernel_rfl
  have t3 : ∀ W : World, (Instr.typeAssert (.iface 260 (.pointer (some (ρ 3)))) 59 95 true).run Tryz.prog W = .ok (.tuple #[.agg #[.string ⟨#[]⟩, .int .u8 0], .bool false]) W := fun W => by kernel_rfl
  go_enter Tryz.func24, Tryz.ntmps24
  go_wp2_with (first | (go_at_call 43; (with_reducible refine (is_same _ _).mono ?_); rintro e w1 ⟨rfl, rfl⟩) | (go_at_call 43; (with_reducible refine (is_other _ _ _ _ _ _ _ n0 r3 r0).mono ?_); rintro e w1 ⟨rfl, rfl⟩) | (go_at_call 43; (with_reducible refine (is_other _ _ _ _ _ _ _ n1 r3 r1).mono ?_); rintro e w1 ⟨rfl, rfl⟩) | (go_at_call 43; (with_reducible refine (is_other _ _ _ _ _ _ _ n2 r3 r2).mono ?_); rintro e w1 ⟨rfl, rfl⟩))
  go_ret
  exact ⟨rfl, Below.refl _ _⟩
theorem code_calls (ρ : Nat → Addr) (v : Value) (a0 : Option (Int × ByteArray)) (r : Int) (w : World) (hL : LaidE ρ w) (he : ErrR ρ v a0) (h : code a0 = some r) :
    Calls Tryz.prog 24 #[v] w fun e w' => e = .returned (.int .i64 r) ∧ Below w.heap.size w w' := by
  cases he with
  | nil => obtain rfl := Option.some.inj h; exact code_nil w
  | few y z hy hz =>
    obtain ⟨a, n, c, rfl⟩ := hy
    obtain ⟨a2, n2, c2, rfl⟩ := hz
    obtain rfl := Option.some.inj ((show some (1 : Int) = some r from h))
    exact code_few a n c a2 n2 c2 w
  | val x =>
    have h : (if x.toList = [100, 111, 99, 117, 109, 101, 110, 116, 32, 111, 114, 32, 97, 114, 114, 97, 121, 32, 108, 101, 110, 103, 116, 104, 32, 105, 115, 32, 105, 110, 118, 97, 108, 105, 100] then some (2 : Int) else if x.toList = [100, 111, 99, 117, 109, 101, 110, 116, 32, 111, 114, 32, 97, 114, 114, 97, 121, 32, 101, 110, 100, 32, 105, 115, 32, 109, 105, 115, 115, 105, 110, 103, 32, 110, 117, 108, 108, 32, 98, 121, 116, 101] then some 3 else some 4) = some r := h
    by_cases h1 : x.toList = [100, 111, 99, 117, 109, 101, 110, 116, 32, 111, 114, 32, 97, 114, 114, 97, 121, 32, 108, 101, 110, 103, 116, 104, 32, 105, 115, 32, 105, 110, 118, 97, 108, 105, 100]
    · rw [if_pos h1] at h; obtain rfl := Option.some.inj h; exact code_val0 x h1 w
    · rw [if_neg h1] at h
      by_cases h2 : x.toList = [100, 111, 99, 117, 109, 101, 110, 116, 32, 111, 114, 32, 97, 114, 114, 97, 121, 32, 101, 110, 100, 32, 105, 115, 32, 109, 105, 115, 115, 105, 110, 103, 32, 110, 117, 108, 108, 32, 98, 121, 116, 101]
      · rw [if_pos h2] at h; obtain rfl := Option.some.inj h; exact code_val1 x h1 h2 w
      · rw [if_neg h2] at h; obtain rfl := Option.some.inj h; exact code_val2 x h1 h2 w
  | mal x => obtain rfl := Option.some.inj ((show some (5 : Int) = some r from h)); exact code_mal x w
  | dep x t => obtain rfl := Option.some.inj ((show some (10 : Int) = some r from h)); exact code_dep x t w
  | sent g c hg hc =>
    subst hc
    rcases (show g = 0 ∨ g = 1 ∨ g = 2 ∨ g = 3 from by simpa [sents] using hg) with rfl | rfl | rfl | rfl
    · obtain rfl := Option.some.inj ((show some (7 : Int) = some r from h)); exact code_sent0 ρ w hL
    · obtain rfl := Option.some.inj ((show some (7 : Int) = some r from h)); exact code_sent1 ρ w hL
    · obtain rfl := Option.some.inj ((show some (8 : Int) = some r from h)); exact code_sent2 ρ w hL
    · obtain rfl := Option.some.inj ((show some (11 : Int) = some r from h)); exact code_sent3 ρ w hL
end Go.Proofs.YtbfhpjkahobgnaaGreatDoor.Er
