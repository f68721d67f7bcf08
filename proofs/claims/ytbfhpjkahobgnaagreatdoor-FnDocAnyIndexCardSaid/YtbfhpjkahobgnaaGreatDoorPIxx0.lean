import Derived.Test.YtbfhpjkahobgnaaGreatDoorProg
import Derived.Test.YtbfhpjkahobgnaaGreatDoorHW
import Derived.Test.YtbfhpjkahobgnaaGreatDoorShelf
import Derived.Below
import Derived.Deep.Draws
import Derived.Deep.AppendLies
import Derived.Maps.AppendAt
import Derived.OwnWalk
import Derived.Laws.BytesArg
import Derived.Laws.MakeOwn
import Derived.Laws.OwnMore
import Derived.Deep.OwnRows
import Derived.Tactics
import Derived.Lib.ConvBytes
import Derived.Laws.Slices
import Derived.WalkKit
import Derived.KernelRfl
import Derived.RowKit3
import Derived.Deep.LoopGhost
import Derived.Deep.QuietTactic
import Derived.BigQuiet
import Derived.WideLaws
import Derived.Deep.DeepCutAuto
import Derived.Deep.CutBlock
import Derived.Deep.RegionHeld3
import Derived.Laws.Rows
import Derived.Lib.AppendStr
import Derived.ArgAppend
import Derived.Laws.IdiomCopy
import Derived.OrdersHeld
import Derived.Laws.BitsLemmas
import Derived.RowKit
import Derived.Test.YtbfhpjkahobgnaaGreatDoorWWords
import Derived.Test.YtbfhpjkahobgnaaGreatDoorWLast
import Derived.Test.YtbfhpjkahobgnaaGreatDoorWTab
import Derived.Test.YtbfhpjkahobgnaaGreatDoorWFour
import Derived.Test.YtbfhpjkahobgnaaGreatDoorWQPut
import Derived.Test.YtbfhpjkahobgnaaGreatDoorWApart
import Derived.Test.YtbfhpjkahobgnaaGreatDoorWArr
import Derived.Test.YtbfhpjkahobgnaaGreatDoorWZeros
import Derived.Test.YtbfhpjkahobgnaaGreatDoorWFoot
import Derived.Test.YtbfhpjkahobgnaaGreatDoorWKept
import Derived.Test.YtbfhpjkahobgnaaGreatDoorWShare
import Derived.Test.YtbfhpjkahobgnaaGreatDoorWN
import Derived.Test.YtbfhpjkahobgnaaGreatDoorWFootNe
import Derived.Test.YtbfhpjkahobgnaaGreatDoorWAt
import Derived.Test.YtbfhpjkahobgnaaGreatDoorWEqStruct
import Derived.Test.YtbfhpjkahobgnaaGreatDoorWRepsOne
import Derived.Test.YtbfhpjkahobgnaaGreatDoorWInv
import Derived.Test.YtbfhpjkahobgnaaGreatDoorWInvWords
import Derived.Test.YtbfhpjkahobgnaaGreatDoorWGuard
import Derived.Test.YtbfhpjkahobgnaaGreatDoorWNEv
import Derived.Test.YtbfhpjkahobgnaaGreatDoorWMore
namespace Go.Proofs.YtbfhpjkahobgnaaGreatDoor.PIx
open Go.RowKit Go.Proofs.YtbfhpjkahobgnaaGreatDoorW.PrintWords Go.Proofs.YtbfhpjkahobgnaaGreatDoorW.PrintLast Go.Proofs.YtbfhpjkahobgnaaGreatDoorW.PrintMore
attribute [local go_sem] max2_int min2_int max_two min_two max_three min_three max_four min_four
set_option linter.unusedVariables false
set_option linter.unusedSimpArgs false
def errW : Option Int → Value
  | none => .nilIface
  | some c => .iface 0 (.int .i64 c)
theorem errW_none : errW none = .nilIface := rfl
theorem errW_some (c : Int) : errW (some c) = .iface 0 (.int .i64 c) := rfl
theorem info5 : (Tryz.prog.info? 5).map (fun i => (i.zero, i.size, i.bytes)) = some (some (.int .u8 0), 1, 1) := by kernel_rfl
theorem info9 : (Tryz.prog.info? 9).map (fun i => (i.zero, i.size, i.bytes)) = some (some (.string ⟨#[]⟩), 1, 16) := by kernel_rfl
theorem info27 : (Tryz.prog.info? 27).map (fun i => (i.zero, i.size, i.bytes)) = some (some (.agg #[(.string ⟨#[]⟩), (.int .i64 0), (.slice none 0 0), (.slice none 0 0)]), 4, 72) := by kernel_rfl
theorem info73 : (Tryz.prog.info? 73).map (fun i => (i.zero, i.size, i.bytes)) = some (some (.agg #[(.string ⟨#[]⟩), (.int .i64 0), (.string ⟨#[]⟩), (.string ⟨#[]⟩), (.int .i64 0), (.int .u64 0), (.int .u64 0), (.slice none 0 0), (.slice none 0 0)]), 9, 128) := by kernel_rfl
def rd_L3 (xs : List (List Int)) (i : Int) : (List Int) := xs.getD i.toNat ([] : List Int)
theorem at_L3 {w : World} {A : Option Addr} {n : Nat} {xs : List (List Int)} (h : Kd.C (Kd.slice 5 (Kd.int .u8)) w A n xs) (i : Int) (h0 : 0 ≤ i) (h1 : i < n) : ∃ ad A0 c0, A = some ad ∧ w.cell? (ad.add i.toNat) = some (.slice A0 (rd_L3 xs i).length c0) ∧ (rd_L3 xs i).length ≤ c0 ∧ (Kd.int .u8).C w A0 (rd_L3 xs i).length (rd_L3 xs i) := by
  obtain ⟨ad, c, e, _, hK, hc0⟩ := Kd.C_get h ([] : List Int) i h0 h1; have hc : ∀ j u, c[j]? = some u → w.cell? (ad.add (i.toNat * 1 + j)) = some u := hc0; obtain ⟨A0, c0, rfl, l0, g0⟩ := hK
  exact ⟨ad, A0, c0, e, by have hq := hc 0 _ rfl; rwa [Nat.mul_one, Nat.add_zero] at hq, l0, g0⟩
structure S25 where
  f0 : Int
  f1 : (List Int)
def z25 : S25 := ⟨(0 : Int), ([] : List Int)⟩
def k25 : Kd S25 := Kd.iso (Kd.pair (Kd.int .i64) (Kd.slice 5 (Kd.int .u8))) (fun x : S25 => (x.f0, x.f1))
theorem k25_heap : Kd.Heap k25 := Kd.heap_iso _ (Kd.heap_pair (Kd.heap_int .i64) (Kd.heap_slice 5 (Kd.heap_int .u8)))
theorem k25_open {w : World} {x : S25} {cs : List Value} (h : k25.K w x cs) : ∃ A1 c1, cs = [.int .i64 x.f0, .slice A1 x.f1.length c1] ∧ x.f1.length ≤ c1 ∧ (Kd.int .u8).C w A1 x.f1.length x.f1 := by
  obtain ⟨_, _, rfl, rfl, ⟨A1, c1, rfl, l1, g1⟩⟩ := h
  exact ⟨A1, c1, rfl, l1, g1⟩
theorem k25_openM {w : World} {base : Nat} {ok : Nat → Prop} {x : S25} {cs : List Value} (h : k25.M w base ok x cs) : ∃ v1, cs = [.int .i64 x.f0, v1] ∧ (Kd.int .u8).R 5 w base ok v1 x.f1 := by
  obtain ⟨_, _, rfl, rfl, ⟨v1, rfl, g1⟩⟩ := h
  exact ⟨v1, rfl, g1⟩
theorem k25_mk (w : World) (x : S25) {A1 : Option Addr} {c1 : Nat} (l1 : x.f1.length ≤ c1) (g1 : (Kd.int .u8).C w A1 x.f1.length x.f1) : k25.K w x [.int .i64 x.f0, .slice A1 x.f1.length c1] := ⟨[.int .i64 x.f0], [.slice A1 x.f1.length c1], rfl, rfl, ⟨A1, c1, rfl, l1, g1⟩⟩
theorem k25_mkM (w : World) (base : Nat) (ok : Nat → Prop) (x : S25) {v1 : Value} (g1 : (Kd.int .u8).R 5 w base ok v1 x.f1) : k25.M w base ok x [.int .i64 x.f0, v1] := ⟨[.int .i64 x.f0], [v1], rfl, rfl, ⟨v1, rfl, g1⟩⟩
theorem k25_openF {W : World} {ok : Nat → Prop} {x : S25} {cs : List Value} (h : Kd.FK k25 W ok x cs) : ∃ A1 c1, cs = [.int .i64 x.f0, .slice A1 x.f1.length c1] ∧ x.f1.length ≤ c1 ∧ Kd.F (Kd.int .u8) W ok A1 x.f1.length x.f1 := by
  obtain ⟨A1, c1, rfl, l1, _⟩ := k25_open (Kd.FK_now h)
  exact ⟨A1, c1, rfl, l1, (fun W' hW => by obtain ⟨A1_, c1_, he, l1_, g1_⟩ := k25_open (h W' hW); injection (Option.some.inj (show some (Value.slice A1 x.f1.length c1) = some (Value.slice A1_ x.f1.length c1_) from congrArg (fun l => l[1]?) he)) with ha_ _ _; rw [ha_]; exact g1_)⟩
theorem k25_mkF (W : World) (ok : Nat → Prop) (x : S25) {A1 : Option Addr} {c1 : Nat} (l1 : x.f1.length ≤ c1) (g1 : Kd.F (Kd.int .u8) W ok A1 x.f1.length x.f1) : Kd.FK k25 W ok x [.int .i64 x.f0, .slice A1 x.f1.length c1] := fun W2 hW => k25_mk W2 x l1 (g1 W2 hW)
def rd_T25 (xs : List S25) (i : Int) : S25 := xs.getD i.toNat z25
theorem at_T25 {w : World} {A : Option Addr} {n : Nat} {xs : List S25} (h : Kd.C k25 w A n xs) (i : Int) (h0 : 0 ≤ i) (h1 : i < n) : ∃ ad A1 c1, A = some ad ∧ w.cell? (ad.add (i.toNat * 2)) = some (.int .i64 (rd_T25 xs i).f0) ∧ w.cell? ⟨(ad.add (i.toNat * 2)).block, (ad.add (i.toNat * 2)).off + 1, none⟩ = some (.slice A1 (rd_T25 xs i).f1.length c1) ∧ (rd_T25 xs i).f1.length ≤ c1 ∧ (Kd.int .u8).C w A1 (rd_T25 xs i).f1.length (rd_T25 xs i).f1 := by
  obtain ⟨ad, c, e, _, hK, hc0⟩ := Kd.C_get h z25 i h0 h1; have hc : ∀ j u, c[j]? = some u → w.cell? (ad.add (i.toNat * 2 + j)) = some u := hc0; obtain ⟨A1, c1, rfl, l1, g1⟩ := k25_open hK
  exact ⟨ad, A1, c1, e, hc 0 _ rfl, by rw [← add_field _ _ 1 (by omega)]; exact hc 1 _ rfl, l1, g1⟩
structure S27 where
  f0 : ByteArray
  f1 : S25
  f2 : (List Int)
def z27 : S27 := ⟨(⟨#[]⟩ : ByteArray), z25, ([] : List Int)⟩
def k27 : Kd S27 := Kd.iso (Kd.pair Kd.string (Kd.pair k25 (Kd.slice 5 (Kd.int .u8)))) (fun x : S27 => (x.f0, x.f1, x.f2))
theorem k27_heap : Kd.Heap k27 := Kd.heap_iso _ (Kd.heap_pair Kd.heap_string (Kd.heap_pair k25_heap (Kd.heap_slice 5 (Kd.heap_int .u8))))
theorem k27_open {w : World} {x : S27} {cs : List Value} (h : k27.K w x cs) : ∃ A2 c2 A3 c3, cs = [.string x.f0, .int .i64 x.f1.f0, .slice A2 x.f1.f1.length c2, .slice A3 x.f2.length c3] ∧ x.f1.f1.length ≤ c2 ∧ (Kd.int .u8).C w A2 x.f1.f1.length x.f1.f1 ∧ x.f2.length ≤ c3 ∧ (Kd.int .u8).C w A3 x.f2.length x.f2 := by
  obtain ⟨_, _, rfl, rfl, ⟨_, _, rfl, s1, ⟨A3, c3, rfl, l3, g3⟩⟩⟩ := h; obtain ⟨A2, c2, rfl, l2, g2⟩ := k25_open s1
  exact ⟨A2, c2, A3, c3, rfl, l2, g2, l3, g3⟩
theorem k27_openM {w : World} {base : Nat} {ok : Nat → Prop} {x : S27} {cs : List Value} (h : k27.M w base ok x cs) : ∃ v2 v3, cs = [.string x.f0, .int .i64 x.f1.f0, v2, v3] ∧ (Kd.int .u8).R 5 w base ok v2 x.f1.f1 ∧ (Kd.int .u8).R 5 w base ok v3 x.f2 := by
  obtain ⟨_, _, rfl, rfl, ⟨_, _, rfl, s1, ⟨v3, rfl, g3⟩⟩⟩ := h; obtain ⟨v2, rfl, g2⟩ := k25_openM s1
  exact ⟨v2, v3, rfl, g2, g3⟩
theorem k27_mk (w : World) (x : S27) {A2 : Option Addr} {c2 : Nat} (l2 : x.f1.f1.length ≤ c2) (g2 : (Kd.int .u8).C w A2 x.f1.f1.length x.f1.f1) {A3 : Option Addr} {c3 : Nat} (l3 : x.f2.length ≤ c3) (g3 : (Kd.int .u8).C w A3 x.f2.length x.f2) : k27.K w x [.string x.f0, .int .i64 x.f1.f0, .slice A2 x.f1.f1.length c2, .slice A3 x.f2.length c3] := ⟨[.string x.f0], [.int .i64 x.f1.f0, .slice A2 x.f1.f1.length c2, .slice A3 x.f2.length c3], rfl, rfl, ⟨[.int .i64 x.f1.f0, .slice A2 x.f1.f1.length c2], [.slice A3 x.f2.length c3], rfl, (k25_mk w x.f1 l2 g2), ⟨A3, c3, rfl, l3, g3⟩⟩⟩
theorem k27_mkM (w : World) (base : Nat) (ok : Nat → Prop) (x : S27) {v2 : Value} (g2 : (Kd.int .u8).R 5 w base ok v2 x.f1.f1) {v3 : Value} (g3 : (Kd.int .u8).R 5 w base ok v3 x.f2) : k27.M w base ok x [.string x.f0, .int .i64 x.f1.f0, v2, v3] := ⟨[.string x.f0], [.int .i64 x.f1.f0, v2, v3], rfl, rfl, ⟨[.int .i64 x.f1.f0, v2], [v3], rfl, (k25_mkM w base ok x.f1 g2), ⟨v3, rfl, g3⟩⟩⟩
theorem k27_openF {W : World} {ok : Nat → Prop} {x : S27} {cs : List Value} (h : Kd.FK k27 W ok x cs) : ∃ A2 c2 A3 c3, cs = [.string x.f0, .int .i64 x.f1.f0, .slice A2 x.f1.f1.length c2, .slice A3 x.f2.length c3] ∧ x.f1.f1.length ≤ c2 ∧ Kd.F (Kd.int .u8) W ok A2 x.f1.f1.length x.f1.f1 ∧ x.f2.length ≤ c3 ∧ Kd.F (Kd.int .u8) W ok A3 x.f2.length x.f2 := by
  obtain ⟨A2, c2, A3, c3, rfl, l2, _, l3, _⟩ := k27_open (Kd.FK_now h)
  exact ⟨A2, c2, A3, c3, rfl, l2, (fun W' hW => by obtain ⟨A2_, c2_, A3_, c3_, he, l2_, g2_, l3_, g3_⟩ := k27_open (h W' hW); injection (Option.some.inj (show some (Value.slice A2 x.f1.f1.length c2) = some (Value.slice A2_ x.f1.f1.length c2_) from congrArg (fun l => l[2]?) he)) with ha_ _ _; rw [ha_]; exact g2_), l3, (fun W' hW => by obtain ⟨A2_, c2_, A3_, c3_, he, l2_, g2_, l3_, g3_⟩ := k27_open (h W' hW); injection (Option.some.inj (show some (Value.slice A3 x.f2.length c3) = some (Value.slice A3_ x.f2.length c3_) from congrArg (fun l => l[3]?) he)) with ha_ _ _; rw [ha_]; exact g3_)⟩
theorem k27_mkF (W : World) (ok : Nat → Prop) (x : S27) {A2 : Option Addr} {c2 : Nat} (l2 : x.f1.f1.length ≤ c2) (g2 : Kd.F (Kd.int .u8) W ok A2 x.f1.f1.length x.f1.f1) {A3 : Option Addr} {c3 : Nat} (l3 : x.f2.length ≤ c3) (g3 : Kd.F (Kd.int .u8) W ok A3 x.f2.length x.f2) : Kd.FK k27 W ok x [.string x.f0, .int .i64 x.f1.f0, .slice A2 x.f1.f1.length c2, .slice A3 x.f2.length c3] := fun W2 hW => k27_mk W2 x l2 (g2 W2 hW) l3 (g3 W2 hW)
def rd_T27 (xs : List S27) (i : Int) : S27 := xs.getD i.toNat z27
theorem at_T27 {w : World} {A : Option Addr} {n : Nat} {xs : List S27} (h : Kd.C k27 w A n xs) (i : Int) (h0 : 0 ≤ i) (h1 : i < n) : ∃ ad A2 c2 A3 c3, A = some ad ∧ w.cell? (ad.add (i.toNat * 4)) = some (.string (rd_T27 xs i).f0) ∧ w.cell? ⟨(ad.add (i.toNat * 4)).block, (ad.add (i.toNat * 4)).off + 1, none⟩ = some (.int .i64 (rd_T27 xs i).f1.f0) ∧ w.cell? ⟨(ad.add (i.toNat * 4)).block, (ad.add (i.toNat * 4)).off + 2, none⟩ = some (.slice A2 (rd_T27 xs i).f1.f1.length c2) ∧ w.cell? ⟨(ad.add (i.toNat * 4)).block, (ad.add (i.toNat * 4)).off + 3, none⟩ = some (.slice A3 (rd_T27 xs i).f2.length c3) ∧ (rd_T27 xs i).f1.f1.length ≤ c2 ∧ (Kd.int .u8).C w A2 (rd_T27 xs i).f1.f1.length (rd_T27 xs i).f1.f1 ∧ (rd_T27 xs i).f2.length ≤ c3 ∧ (Kd.int .u8).C w A3 (rd_T27 xs i).f2.length (rd_T27 xs i).f2 := by
  obtain ⟨ad, c, e, _, hK, hc0⟩ := Kd.C_get h z27 i h0 h1; have hc : ∀ j u, c[j]? = some u → w.cell? (ad.add (i.toNat * 4 + j)) = some u := hc0; obtain ⟨A2, c2, A3, c3, rfl, l2, g2, l3, g3⟩ := k27_open hK
  exact ⟨ad, A2, c2, A3, c3, e, hc 0 _ rfl, by rw [← add_field _ _ 1 (by omega)]; exact hc 1 _ rfl, by rw [← add_field _ _ 2 (by omega)]; exact hc 2 _ rfl, by rw [← add_field _ _ 3 (by omega)]; exact hc 3 _ rfl, l2, g2, l3, g3⟩
structure SP46 (α : Type) where
  f0 : Int
  f1 : ByteArray
  f2 : ByteArray
  f3 : Int
  f4 : Int
  f5 : Int
  f6 : (List Int)
  f7 : List α
structure S73 where
  f0 : ByteArray
  f1 : (SP46 S73)
abbrev S46 := SP46 S73
def z73 : S73 := ⟨(⟨#[]⟩ : ByteArray), (⟨(0 : Int), (⟨#[]⟩ : ByteArray), (⟨#[]⟩ : ByteArray), (0 : Int), (0 : Int), (0 : Int), ([] : List Int), ([] : List S73)⟩ : SP46 S73)⟩
def F73 (d : Kd S73) : Kd S73 := Kd.iso (Kd.pair Kd.string (Kd.iso (Kd.pair (Kd.int .i64) (Kd.pair Kd.string (Kd.pair Kd.string (Kd.pair (Kd.int .i64) (Kd.pair (Kd.int .u64) (Kd.pair (Kd.int .u64) (Kd.pair (Kd.slice 5 (Kd.int .u8)) (Kd.slice 73 d)))))))) (fun x : SP46 S73 => (x.f0, x.f1, x.f2, x.f3, x.f4, x.f5, x.f6, x.f7)))) (fun x : S73 => (x.f0, x.f1))
theorem mono73 : Kd.Mono F73 := Kd.mono_iso _ (Kd.mono_pair (Kd.mono_const _) (Kd.mono_iso _ (Kd.mono_pair (Kd.mono_const _) (Kd.mono_pair (Kd.mono_const _) (Kd.mono_pair (Kd.mono_const _) (Kd.mono_pair (Kd.mono_const _) (Kd.mono_pair (Kd.mono_const _) (Kd.mono_pair (Kd.mono_const _) (Kd.mono_pair (Kd.mono_const _) (Kd.mono_slice 73 Kd.mono_id))))))))))
theorem sub73 : Kd.Sub F73 [5, 73] := Kd.sub_iso _ (Kd.sub_pair (Kd.sub_const _ (by decide)) (Kd.sub_iso _ (Kd.sub_pair (Kd.sub_const _ (by decide)) (Kd.sub_pair (Kd.sub_const _ (by decide)) (Kd.sub_pair (Kd.sub_const _ (by decide)) (Kd.sub_pair (Kd.sub_const _ (by decide)) (Kd.sub_pair (Kd.sub_const _ (by decide)) (Kd.sub_pair (Kd.sub_const _ (by decide)) (Kd.sub_pair (Kd.sub_const _ (by decide)) (Kd.sub_slice 73 (by decide) Kd.sub_id))))))))))
theorem sz73 : ∀ n, (Kd.upto F73 9 [5, 73] n).sz = 9 := Kd.upto_sz (fun _ => rfl)
def k73 : Kd S73 := Kd.fix F73 9 [5, 73] sz73 (Kd.upto_E sub73)
theorem k73_heap : Kd.Heap k73 := Kd.heap_fix (fun _ h_ => Kd.heap_iso _ (Kd.heap_pair Kd.heap_string (Kd.heap_iso _ (Kd.heap_pair (Kd.heap_int .i64) (Kd.heap_pair Kd.heap_string (Kd.heap_pair Kd.heap_string (Kd.heap_pair (Kd.heap_int .i64) (Kd.heap_pair (Kd.heap_int .u64) (Kd.heap_pair (Kd.heap_int .u64) (Kd.heap_pair (Kd.heap_slice 5 (Kd.heap_int .u8)) (Kd.heap_slice 73 h_)))))))))))
theorem k73_open {w : World} {x : S73} {cs : List Value} (h : k73.K w x cs) : ∃ A7 c7 A8 c8, cs = [.string x.f0, .int .i64 x.f1.f0, .string x.f1.f1, .string x.f1.f2, .int .i64 x.f1.f3, .int .u64 x.f1.f4, .int .u64 x.f1.f5, .slice A7 x.f1.f6.length c7, .slice A8 x.f1.f7.length c8] ∧ x.f1.f6.length ≤ c7 ∧ (Kd.int .u8).C w A7 x.f1.f6.length x.f1.f6 ∧ x.f1.f7.length ≤ c8 ∧ k73.C w A8 x.f1.f7.length x.f1.f7 := by
  obtain ⟨n, h⟩ := h
  cases n with
  | zero => exact h.elim
  | succ n =>
    obtain ⟨_, _, rfl, rfl, ⟨_, _, rfl, rfl, ⟨_, _, rfl, rfl, ⟨_, _, rfl, rfl, ⟨_, _, rfl, rfl, ⟨_, _, rfl, rfl, ⟨_, _, rfl, rfl, ⟨_, _, rfl, ⟨A7, c7, rfl, l7, g7⟩, ⟨A8, c8, rfl, l8, g8⟩⟩⟩⟩⟩⟩⟩⟩⟩ := h
    exact ⟨A7, c7, A8, c8, rfl, l7, g7, l8, Kd.fix_C g8⟩
theorem k73_openM {w : World} {base : Nat} {ok : Nat → Prop} {x : S73} {cs : List Value} (h : k73.M w base ok x cs) : ∃ v7 v8, cs = [.string x.f0, .int .i64 x.f1.f0, .string x.f1.f1, .string x.f1.f2, .int .i64 x.f1.f3, .int .u64 x.f1.f4, .int .u64 x.f1.f5, v7, v8] ∧ (Kd.int .u8).R 5 w base ok v7 x.f1.f6 ∧ k73.R 73 w base ok v8 x.f1.f7 := by
  obtain ⟨n, h⟩ := h
  cases n with
  | zero => exact h.elim
  | succ n =>
    obtain ⟨_, _, rfl, rfl, ⟨_, _, rfl, rfl, ⟨_, _, rfl, rfl, ⟨_, _, rfl, rfl, ⟨_, _, rfl, rfl, ⟨_, _, rfl, rfl, ⟨_, _, rfl, rfl, ⟨_, _, rfl, ⟨v7, rfl, g7⟩, ⟨v8, rfl, g8⟩⟩⟩⟩⟩⟩⟩⟩⟩ := h
    exact ⟨v7, v8, rfl, g7, Kd.fix_R g8⟩
theorem k73_mk (w : World) (x : S73) {A7 : Option Addr} {c7 : Nat} (l7 : x.f1.f6.length ≤ c7) (g7 : (Kd.int .u8).C w A7 x.f1.f6.length x.f1.f6) {A8 : Option Addr} {c8 : Nat} (l8 : x.f1.f7.length ≤ c8) (g8 : k73.C w A8 x.f1.f7.length x.f1.f7) : k73.K w x [.string x.f0, .int .i64 x.f1.f0, .string x.f1.f1, .string x.f1.f2, .int .i64 x.f1.f3, .int .u64 x.f1.f4, .int .u64 x.f1.f5, .slice A7 x.f1.f6.length c7, .slice A8 x.f1.f7.length c8] := by
  obtain ⟨n8, q8⟩ := Kd.fix_C_back mono73 g8
  have r8 := Kd.upto_C_le mono73 sz73 (show n8 ≤ n8 by omega) q8
  exact ⟨n8 + 1, ⟨[.string x.f0], [.int .i64 x.f1.f0, .string x.f1.f1, .string x.f1.f2, .int .i64 x.f1.f3, .int .u64 x.f1.f4, .int .u64 x.f1.f5, .slice A7 x.f1.f6.length c7, .slice A8 x.f1.f7.length c8], rfl, rfl, ⟨[.int .i64 x.f1.f0], [.string x.f1.f1, .string x.f1.f2, .int .i64 x.f1.f3, .int .u64 x.f1.f4, .int .u64 x.f1.f5, .slice A7 x.f1.f6.length c7, .slice A8 x.f1.f7.length c8], rfl, rfl, ⟨[.string x.f1.f1], [.string x.f1.f2, .int .i64 x.f1.f3, .int .u64 x.f1.f4, .int .u64 x.f1.f5, .slice A7 x.f1.f6.length c7, .slice A8 x.f1.f7.length c8], rfl, rfl, ⟨[.string x.f1.f2], [.int .i64 x.f1.f3, .int .u64 x.f1.f4, .int .u64 x.f1.f5, .slice A7 x.f1.f6.length c7, .slice A8 x.f1.f7.length c8], rfl, rfl, ⟨[.int .i64 x.f1.f3], [.int .u64 x.f1.f4, .int .u64 x.f1.f5, .slice A7 x.f1.f6.length c7, .slice A8 x.f1.f7.length c8], rfl, rfl, ⟨[.int .u64 x.f1.f4], [.int .u64 x.f1.f5, .slice A7 x.f1.f6.length c7, .slice A8 x.f1.f7.length c8], rfl, rfl, ⟨[.int .u64 x.f1.f5], [.slice A7 x.f1.f6.length c7, .slice A8 x.f1.f7.length c8], rfl, rfl, ⟨[.slice A7 x.f1.f6.length c7], [.slice A8 x.f1.f7.length c8], rfl, ⟨A7, c7, rfl, l7, g7⟩, ⟨A8, c8, rfl, l8, r8⟩⟩⟩⟩⟩⟩⟩⟩⟩⟩
theorem k73_mkM (w : World) (base : Nat) (ok : Nat → Prop) (x : S73) {v7 : Value} (g7 : (Kd.int .u8).R 5 w base ok v7 x.f1.f6) {v8 : Value} (g8 : k73.R 73 w base ok v8 x.f1.f7) : k73.M w base ok x [.string x.f0, .int .i64 x.f1.f0, .string x.f1.f1, .string x.f1.f2, .int .i64 x.f1.f3, .int .u64 x.f1.f4, .int .u64 x.f1.f5, v7, v8] := by
  obtain ⟨n8, q8⟩ := Kd.fix_R_back mono73 g8
  have r8 := Kd.upto_R_le mono73 sz73 (show n8 ≤ n8 by omega) q8
  exact ⟨n8 + 1, ⟨[.string x.f0], [.int .i64 x.f1.f0, .string x.f1.f1, .string x.f1.f2, .int .i64 x.f1.f3, .int .u64 x.f1.f4, .int .u64 x.f1.f5, v7, v8], rfl, rfl, ⟨[.int .i64 x.f1.f0], [.string x.f1.f1, .string x.f1.f2, .int .i64 x.f1.f3, .int .u64 x.f1.f4, .int .u64 x.f1.f5, v7, v8], rfl, rfl, ⟨[.string x.f1.f1], [.string x.f1.f2, .int .i64 x.f1.f3, .int .u64 x.f1.f4, .int .u64 x.f1.f5, v7, v8], rfl, rfl, ⟨[.string x.f1.f2], [.int .i64 x.f1.f3, .int .u64 x.f1.f4, .int .u64 x.f1.f5, v7, v8], rfl, rfl, ⟨[.int .i64 x.f1.f3], [.int .u64 x.f1.f4, .int .u64 x.f1.f5, v7, v8], rfl, rfl, ⟨[.int .u64 x.f1.f4], [.int .u64 x.f1.f5, v7, v8], rfl, rfl, ⟨[.int .u64 x.f1.f5], [v7, v8], rfl, rfl, ⟨[v7], [v8], rfl, ⟨v7, rfl, g7⟩, ⟨v8, rfl, r8⟩⟩⟩⟩⟩⟩⟩⟩⟩⟩
theorem k73_openF {W : World} {ok : Nat → Prop} {x : S73} {cs : List Value} (h : Kd.FK k73 W ok x cs) : ∃ A7 c7 A8 c8, cs = [.string x.f0, .int .i64 x.f1.f0, .string x.f1.f1, .string x.f1.f2, .int .i64 x.f1.f3, .int .u64 x.f1.f4, .int .u64 x.f1.f5, .slice A7 x.f1.f6.length c7, .slice A8 x.f1.f7.length c8] ∧ x.f1.f6.length ≤ c7 ∧ Kd.F (Kd.int .u8) W ok A7 x.f1.f6.length x.f1.f6 ∧ x.f1.f7.length ≤ c8 ∧ Kd.F k73 W ok A8 x.f1.f7.length x.f1.f7 := by
  obtain ⟨A7, c7, A8, c8, rfl, l7, _, l8, _⟩ := k73_open (Kd.FK_now h)
  exact ⟨A7, c7, A8, c8, rfl, l7, (fun W' hW => by obtain ⟨A7_, c7_, A8_, c8_, he, l7_, g7_, l8_, g8_⟩ := k73_open (h W' hW); injection (Option.some.inj (show some (Value.slice A7 x.f1.f6.length c7) = some (Value.slice A7_ x.f1.f6.length c7_) from congrArg (fun l => l[7]?) he)) with ha_ _ _; rw [ha_]; exact g7_), l8, (fun W' hW => by obtain ⟨A7_, c7_, A8_, c8_, he, l7_, g7_, l8_, g8_⟩ := k73_open (h W' hW); injection (Option.some.inj (show some (Value.slice A8 x.f1.f7.length c8) = some (Value.slice A8_ x.f1.f7.length c8_) from congrArg (fun l => l[8]?) he)) with ha_ _ _; rw [ha_]; exact g8_)⟩
theorem k73_mkF (W : World) (ok : Nat → Prop) (x : S73) {A7 : Option Addr} {c7 : Nat} (l7 : x.f1.f6.length ≤ c7) (g7 : Kd.F (Kd.int .u8) W ok A7 x.f1.f6.length x.f1.f6) {A8 : Option Addr} {c8 : Nat} (l8 : x.f1.f7.length ≤ c8) (g8 : Kd.F k73 W ok A8 x.f1.f7.length x.f1.f7) : Kd.FK k73 W ok x [.string x.f0, .int .i64 x.f1.f0, .string x.f1.f1, .string x.f1.f2, .int .i64 x.f1.f3, .int .u64 x.f1.f4, .int .u64 x.f1.f5, .slice A7 x.f1.f6.length c7, .slice A8 x.f1.f7.length c8] := fun W2 hW => k73_mk W2 x l7 (g7 W2 hW) l8 (g8 W2 hW)
def rd_T73 (xs : List S73) (i : Int) : S73 := xs.getD i.toNat z73
theorem at_T73 {w : World} {A : Option Addr} {n : Nat} {xs : List S73} (h : Kd.C k73 w A n xs) (i : Int) (h0 : 0 ≤ i) (h1 : i < n) : ∃ ad A7 c7 A8 c8, A = some ad ∧ w.cell? (ad.add (i.toNat * 9)) = some (.string (rd_T73 xs i).f0) ∧ w.cell? ⟨(ad.add (i.toNat * 9)).block, (ad.add (i.toNat * 9)).off + 1, none⟩ = some (.int .i64 (rd_T73 xs i).f1.f0) ∧ w.cell? ⟨(ad.add (i.toNat * 9)).block, (ad.add (i.toNat * 9)).off + 2, none⟩ = some (.string (rd_T73 xs i).f1.f1) ∧ w.cell? ⟨(ad.add (i.toNat * 9)).block, (ad.add (i.toNat * 9)).off + 3, none⟩ = some (.string (rd_T73 xs i).f1.f2) ∧ w.cell? ⟨(ad.add (i.toNat * 9)).block, (ad.add (i.toNat * 9)).off + 4, none⟩ = some (.int .i64 (rd_T73 xs i).f1.f3) ∧ w.cell? ⟨(ad.add (i.toNat * 9)).block, (ad.add (i.toNat * 9)).off + 5, none⟩ = some (.int .u64 (rd_T73 xs i).f1.f4) ∧ w.cell? ⟨(ad.add (i.toNat * 9)).block, (ad.add (i.toNat * 9)).off + 6, none⟩ = some (.int .u64 (rd_T73 xs i).f1.f5) ∧ w.cell? ⟨(ad.add (i.toNat * 9)).block, (ad.add (i.toNat * 9)).off + 7, none⟩ = some (.slice A7 (rd_T73 xs i).f1.f6.length c7) ∧ w.cell? ⟨(ad.add (i.toNat * 9)).block, (ad.add (i.toNat * 9)).off + 8, none⟩ = some (.slice A8 (rd_T73 xs i).f1.f7.length c8) ∧ (rd_T73 xs i).f1.f6.length ≤ c7 ∧ (Kd.int .u8).C w A7 (rd_T73 xs i).f1.f6.length (rd_T73 xs i).f1.f6 ∧ (rd_T73 xs i).f1.f7.length ≤ c8 ∧ k73.C w A8 (rd_T73 xs i).f1.f7.length (rd_T73 xs i).f1.f7 := by
  obtain ⟨ad, c, e, _, hK, hc0⟩ := Kd.C_get h z73 i h0 h1; have hc : ∀ j u, c[j]? = some u → w.cell? (ad.add (i.toNat * 9 + j)) = some u := hc0; obtain ⟨A7, c7, A8, c8, rfl, l7, g7, l8, g8⟩ := k73_open hK
  exact ⟨ad, A7, c7, A8, c8, e, hc 0 _ rfl, by rw [← add_field _ _ 1 (by omega)]; exact hc 1 _ rfl, by rw [← add_field _ _ 2 (by omega)]; exact hc 2 _ rfl, by rw [← add_field _ _ 3 (by omega)]; exact hc 3 _ rfl, by rw [← add_field _ _ 4 (by omega)]; exact hc 4 _ rfl, by rw [← add_field _ _ 5 (by omega)]; exact hc 5 _ rfl, by rw [← add_field _ _ 6 (by omega)]; exact hc 6 _ rfl, by rw [← add_field _ _ 7 (by omega)]; exact hc 7 _ rfl, by rw [← add_field _ _ 8 (by omega)]; exact hc 8 _ rfl, l7, g7, l8, g8⟩
def rd_L8 (xs : List (List S73)) (i : Int) : (List S73) := xs.getD i.toNat ([] : List S73)
theorem at_L8 {w : World} {A : Option Addr} {n : Nat} {xs : List (List S73)} (h : Kd.C (Kd.slice 73 k73) w A n xs) (i : Int) (h0 : 0 ≤ i) (h1 : i < n) : ∃ ad A0 c0, A = some ad ∧ w.cell? (ad.add i.toNat) = some (.slice A0 (rd_L8 xs i).length c0) ∧ (rd_L8 xs i).length ≤ c0 ∧ k73.C w A0 (rd_L8 xs i).length (rd_L8 xs i) := by
  obtain ⟨ad, c, e, _, hK, hc0⟩ := Kd.C_get h ([] : List S73) i h0 h1; have hc : ∀ j u, c[j]? = some u → w.cell? (ad.add (i.toNat * 1 + j)) = some u := hc0; obtain ⟨A0, c0, rfl, l0, g0⟩ := hK
  exact ⟨ad, A0, c0, e, by have hq := hc 0 _ rfl; rwa [Nat.mul_one, Nat.add_zero] at hq, l0, g0⟩
def z46 : S46 := ⟨(0 : Int), (⟨#[]⟩ : ByteArray), (⟨#[]⟩ : ByteArray), (0 : Int), (0 : Int), (0 : Int), ([] : List Int), ([] : List S73)⟩
def k46 : Kd S46 := Kd.iso (Kd.pair (Kd.int .i64) (Kd.pair Kd.string (Kd.pair Kd.string (Kd.pair (Kd.int .i64) (Kd.pair (Kd.int .u64) (Kd.pair (Kd.int .u64) (Kd.pair (Kd.slice 5 (Kd.int .u8)) (Kd.slice 73 k73)))))))) (fun x : S46 => (x.f0, x.f1, x.f2, x.f3, x.f4, x.f5, x.f6, x.f7))
theorem k46_heap : Kd.Heap k46 := Kd.heap_iso _ (Kd.heap_pair (Kd.heap_int .i64) (Kd.heap_pair Kd.heap_string (Kd.heap_pair Kd.heap_string (Kd.heap_pair (Kd.heap_int .i64) (Kd.heap_pair (Kd.heap_int .u64) (Kd.heap_pair (Kd.heap_int .u64) (Kd.heap_pair (Kd.heap_slice 5 (Kd.heap_int .u8)) (Kd.heap_slice 73 k73_heap))))))))
theorem k46_open {w : World} {x : S46} {cs : List Value} (h : k46.K w x cs) : ∃ A6 c6 A7 c7, cs = [.int .i64 x.f0, .string x.f1, .string x.f2, .int .i64 x.f3, .int .u64 x.f4, .int .u64 x.f5, .slice A6 x.f6.length c6, .slice A7 x.f7.length c7] ∧ x.f6.length ≤ c6 ∧ (Kd.int .u8).C w A6 x.f6.length x.f6 ∧ x.f7.length ≤ c7 ∧ k73.C w A7 x.f7.length x.f7 := by
  obtain ⟨_, _, rfl, rfl, ⟨_, _, rfl, rfl, ⟨_, _, rfl, rfl, ⟨_, _, rfl, rfl, ⟨_, _, rfl, rfl, ⟨_, _, rfl, rfl, ⟨_, _, rfl, ⟨A6, c6, rfl, l6, g6⟩, ⟨A7, c7, rfl, l7, g7⟩⟩⟩⟩⟩⟩⟩⟩ := h
  exact ⟨A6, c6, A7, c7, rfl, l6, g6, l7, g7⟩
theorem k46_openM {w : World} {base : Nat} {ok : Nat → Prop} {x : S46} {cs : List Value} (h : k46.M w base ok x cs) : ∃ v6 v7, cs = [.int .i64 x.f0, .string x.f1, .string x.f2, .int .i64 x.f3, .int .u64 x.f4, .int .u64 x.f5, v6, v7] ∧ (Kd.int .u8).R 5 w base ok v6 x.f6 ∧ k73.R 73 w base ok v7 x.f7 := by
  obtain ⟨_, _, rfl, rfl, ⟨_, _, rfl, rfl, ⟨_, _, rfl, rfl, ⟨_, _, rfl, rfl, ⟨_, _, rfl, rfl, ⟨_, _, rfl, rfl, ⟨_, _, rfl, ⟨v6, rfl, g6⟩, ⟨v7, rfl, g7⟩⟩⟩⟩⟩⟩⟩⟩ := h
  exact ⟨v6, v7, rfl, g6, g7⟩
theorem k46_mk (w : World) (x : S46) {A6 : Option Addr} {c6 : Nat} (l6 : x.f6.length ≤ c6) (g6 : (Kd.int .u8).C w A6 x.f6.length x.f6) {A7 : Option Addr} {c7 : Nat} (l7 : x.f7.length ≤ c7) (g7 : k73.C w A7 x.f7.length x.f7) : k46.K w x [.int .i64 x.f0, .string x.f1, .string x.f2, .int .i64 x.f3, .int .u64 x.f4, .int .u64 x.f5, .slice A6 x.f6.length c6, .slice A7 x.f7.length c7] := ⟨[.int .i64 x.f0], [.string x.f1, .string x.f2, .int .i64 x.f3, .int .u64 x.f4, .int .u64 x.f5, .slice A6 x.f6.length c6, .slice A7 x.f7.length c7], rfl, rfl, ⟨[.string x.f1], [.string x.f2, .int .i64 x.f3, .int .u64 x.f4, .int .u64 x.f5, .slice A6 x.f6.length c6, .slice A7 x.f7.length c7], rfl, rfl, ⟨[.string x.f2], [.int .i64 x.f3, .int .u64 x.f4, .int .u64 x.f5, .slice A6 x.f6.length c6, .slice A7 x.f7.length c7], rfl, rfl, ⟨[.int .i64 x.f3], [.int .u64 x.f4, .int .u64 x.f5, .slice A6 x.f6.length c6, .slice A7 x.f7.length c7], rfl, rfl, ⟨[.int .u64 x.f4], [.int .u64 x.f5, .slice A6 x.f6.length c6, .slice A7 x.f7.length c7], rfl, rfl, ⟨[.int .u64 x.f5], [.slice A6 x.f6.length c6, .slice A7 x.f7.length c7], rfl, rfl, ⟨[.slice A6 x.f6.length c6], [.slice A7 x.f7.length c7], rfl, ⟨A6, c6, rfl, l6, g6⟩, ⟨A7, c7, rfl, l7, g7⟩⟩⟩⟩⟩⟩⟩⟩
theorem k46_mkM (w : World) (base : Nat) (ok : Nat → Prop) (x : S46) {v6 : Value} (g6 : (Kd.int .u8).R 5 w base ok v6 x.f6) {v7 : Value} (g7 : k73.R 73 w base ok v7 x.f7) : k46.M w base ok x [.int .i64 x.f0, .string x.f1, .string x.f2, .int .i64 x.f3, .int .u64 x.f4, .int .u64 x.f5, v6, v7] := ⟨[.int .i64 x.f0], [.string x.f1, .string x.f2, .int .i64 x.f3, .int .u64 x.f4, .int .u64 x.f5, v6, v7], rfl, rfl, ⟨[.string x.f1], [.string x.f2, .int .i64 x.f3, .int .u64 x.f4, .int .u64 x.f5, v6, v7], rfl, rfl, ⟨[.string x.f2], [.int .i64 x.f3, .int .u64 x.f4, .int .u64 x.f5, v6, v7], rfl, rfl, ⟨[.int .i64 x.f3], [.int .u64 x.f4, .int .u64 x.f5, v6, v7], rfl, rfl, ⟨[.int .u64 x.f4], [.int .u64 x.f5, v6, v7], rfl, rfl, ⟨[.int .u64 x.f5], [v6, v7], rfl, rfl, ⟨[v6], [v7], rfl, ⟨v6, rfl, g6⟩, ⟨v7, rfl, g7⟩⟩⟩⟩⟩⟩⟩⟩
theorem k46_openF {W : World} {ok : Nat → Prop} {x : S46} {cs : List Value} (h : Kd.FK k46 W ok x cs) : ∃ A6 c6 A7 c7, cs = [.int .i64 x.f0, .string x.f1, .string x.f2, .int .i64 x.f3, .int .u64 x.f4, .int .u64 x.f5, .slice A6 x.f6.length c6, .slice A7 x.f7.length c7] ∧ x.f6.length ≤ c6 ∧ Kd.F (Kd.int .u8) W ok A6 x.f6.length x.f6 ∧ x.f7.length ≤ c7 ∧ Kd.F k73 W ok A7 x.f7.length x.f7 := by
  obtain ⟨A6, c6, A7, c7, rfl, l6, _, l7, _⟩ := k46_open (Kd.FK_now h)
  exact ⟨A6, c6, A7, c7, rfl, l6, (fun W' hW => by obtain ⟨A6_, c6_, A7_, c7_, he, l6_, g6_, l7_, g7_⟩ := k46_open (h W' hW); injection (Option.some.inj (show some (Value.slice A6 x.f6.length c6) = some (Value.slice A6_ x.f6.length c6_) from congrArg (fun l => l[6]?) he)) with ha_ _ _; rw [ha_]; exact g6_), l7, (fun W' hW => by obtain ⟨A6_, c6_, A7_, c7_, he, l6_, g6_, l7_, g7_⟩ := k46_open (h W' hW); injection (Option.some.inj (show some (Value.slice A7 x.f7.length c7) = some (Value.slice A7_ x.f7.length c7_) from congrArg (fun l => l[7]?) he)) with ha_ _ _; rw [ha_]; exact g7_)⟩
theorem k46_mkF (W : World) (ok : Nat → Prop) (x : S46) {A6 : Option Addr} {c6 : Nat} (l6 : x.f6.length ≤ c6) (g6 : Kd.F (Kd.int .u8) W ok A6 x.f6.length x.f6) {A7 : Option Addr} {c7 : Nat} (l7 : x.f7.length ≤ c7) (g7 : Kd.F k73 W ok A7 x.f7.length x.f7) : Kd.FK k46 W ok x [.int .i64 x.f0, .string x.f1, .string x.f2, .int .i64 x.f3, .int .u64 x.f4, .int .u64 x.f5, .slice A6 x.f6.length c6, .slice A7 x.f7.length c7] := fun W2 hW => k46_mk W2 x l6 (g6 W2 hW) l7 (g7 W2 hW)
def rd_T46 (xs : List S46) (i : Int) : S46 := xs.getD i.toNat z46
theorem at_T46 {w : World} {A : Option Addr} {n : Nat} {xs : List S46} (h : Kd.C k46 w A n xs) (i : Int) (h0 : 0 ≤ i) (h1 : i < n) : ∃ ad A6 c6 A7 c7, A = some ad ∧ w.cell? (ad.add (i.toNat * 8)) = some (.int .i64 (rd_T46 xs i).f0) ∧ w.cell? ⟨(ad.add (i.toNat * 8)).block, (ad.add (i.toNat * 8)).off + 1, none⟩ = some (.string (rd_T46 xs i).f1) ∧ w.cell? ⟨(ad.add (i.toNat * 8)).block, (ad.add (i.toNat * 8)).off + 2, none⟩ = some (.string (rd_T46 xs i).f2) ∧ w.cell? ⟨(ad.add (i.toNat * 8)).block, (ad.add (i.toNat * 8)).off + 3, none⟩ = some (.int .i64 (rd_T46 xs i).f3) ∧ w.cell? ⟨(ad.add (i.toNat * 8)).block, (ad.add (i.toNat * 8)).off + 4, none⟩ = some (.int .u64 (rd_T46 xs i).f4) ∧ w.cell? ⟨(ad.add (i.toNat * 8)).block, (ad.add (i.toNat * 8)).off + 5, none⟩ = some (.int .u64 (rd_T46 xs i).f5) ∧ w.cell? ⟨(ad.add (i.toNat * 8)).block, (ad.add (i.toNat * 8)).off + 6, none⟩ = some (.slice A6 (rd_T46 xs i).f6.length c6) ∧ w.cell? ⟨(ad.add (i.toNat * 8)).block, (ad.add (i.toNat * 8)).off + 7, none⟩ = some (.slice A7 (rd_T46 xs i).f7.length c7) ∧ (rd_T46 xs i).f6.length ≤ c6 ∧ (Kd.int .u8).C w A6 (rd_T46 xs i).f6.length (rd_T46 xs i).f6 ∧ (rd_T46 xs i).f7.length ≤ c7 ∧ k73.C w A7 (rd_T46 xs i).f7.length (rd_T46 xs i).f7 := by
  obtain ⟨ad, c, e, _, hK, hc0⟩ := Kd.C_get h z46 i h0 h1; have hc : ∀ j u, c[j]? = some u → w.cell? (ad.add (i.toNat * 8 + j)) = some u := hc0; obtain ⟨A6, c6, A7, c7, rfl, l6, g6, l7, g7⟩ := k46_open hK
  exact ⟨ad, A6, c6, A7, c7, e, hc 0 _ rfl, by rw [← add_field _ _ 1 (by omega)]; exact hc 1 _ rfl, by rw [← add_field _ _ 2 (by omega)]; exact hc 2 _ rfl, by rw [← add_field _ _ 3 (by omega)]; exact hc 3 _ rfl, by rw [← add_field _ _ 4 (by omega)]; exact hc 4 _ rfl, by rw [← add_field _ _ 5 (by omega)]; exact hc 5 _ rfl, by rw [← add_field _ _ 6 (by omega)]; exact hc 6 _ rfl, by rw [← add_field _ _ 7 (by omega)]; exact hc 7 _ rfl, l6, g6, l7, g7⟩
end Go.Proofs.YtbfhpjkahobgnaaGreatDoor.PIx
