import Derived.Test.YtbfhpjkahobgnaaGreatDoorProg
import Derived.Test.YtbfhpjkahobgnaaGreatDoorHW
import Derived.Test.YtbfhpjkahobgnaaGreatDoorShelf
import Derived.Test.YtbfhpjkahobgnaaGreatDoorEr
import Derived.Below
import Derived.Deep.Draws
import Derived.Deep.AppendLies
import Derived.Maps.AppendAt
import Derived.OwnWalk
import Derived.Laws.BytesArg
import Derived.Laws.MakeOwn
import Derived.Laws.OwnMore
import Derived.Deep.OwnRows
import Derived.Tactics
import Derived.Lib.ConvBytes
import Derived.Laws.Slices
import Derived.WalkKit
import Derived.KernelRfl
import Derived.RowKit3
import Derived.Deep.LoopGhost
import Derived.Deep.QuietTactic
import Derived.BigQuiet
import Derived.WideLaws
import Derived.Deep.DeepCutAuto
import Derived.Deep.CutBlock
import Derived.Deep.RegionHeld3
import Derived.Laws.Rows
import Derived.Lib.AppendStr
import Derived.ArgAppend
import Derived.Laws.IdiomCopy
import Derived.OrdersHeld
import Derived.Laws.BitsLemmas
import Derived.RowKit
import Derived.Test.YtbfhpjkahobgnaaGreatDoorWWords
import Derived.Test.YtbfhpjkahobgnaaGreatDoorWLast
import Derived.Test.YtbfhpjkahobgnaaGreatDoorWTab
import Derived.Test.YtbfhpjkahobgnaaGreatDoorWFour
import Derived.Test.YtbfhpjkahobgnaaGreatDoorWQPut
import Derived.Test.YtbfhpjkahobgnaaGreatDoorWApart
import Derived.Test.YtbfhpjkahobgnaaGreatDoorWArr
import Derived.Test.YtbfhpjkahobgnaaGreatDoorWZeros
import Derived.Test.YtbfhpjkahobgnaaGreatDoorWFoot
import Derived.Test.YtbfhpjkahobgnaaGreatDoorWKept
import Derived.Test.YtbfhpjkahobgnaaGreatDoorWShare
import Derived.Test.YtbfhpjkahobgnaaGreatDoorWN
import Derived.Test.YtbfhpjkahobgnaaGreatDoorWFootNe
import Derived.Test.YtbfhpjkahobgnaaGreatDoorWAt
import Derived.Test.YtbfhpjkahobgnaaGreatDoorWEqStruct
import Derived.Test.YtbfhpjkahobgnaaGreatDoorWRepsOne
import Derived.Test.YtbfhpjkahobgnaaGreatDoorWInv
import Derived.Test.YtbfhpjkahobgnaaGreatDoorWInvWords
import Derived.Test.YtbfhpjkahobgnaaGreatDoorWGuard
import Derived.Test.YtbfhpjkahobgnaaGreatDoorWNEv
import Derived.Test.YtbfhpjkahobgnaaGreatDoorWMore
namespace Go.Proofs.YtbfhpjkahobgnaaGreatDoor.PLo
open Go.RowKit Go.Proofs.YtbfhpjkahobgnaaGreatDoorW.PrintWords Go.Proofs.YtbfhpjkahobgnaaGreatDoorW.PrintLast Go.Proofs.YtbfhpjkahobgnaaGreatDoorW.PrintMore
attribute [local go_sem] max2_int min2_int max_two min_two max_three min_three max_four min_four
set_option linter.unusedVariables false
set_option linter.unusedSimpArgs false
def errW : Option Int → Value
  | none => .nilIface
  | some c => .iface 0 (.int .i64 c)
theorem errW_none : errW none = .nilIface := rfl
theorem errW_some (c : Int) : errW (some c) = .iface 0 (.int .i64 c) := rfl
theorem info5 : (Tryz.prog.info? 5).map (fun i => (i.zero, i.size, i.bytes)) = some (some (.int .u8 0), 1, 1) := by kernel_rfl
theorem info9 : (Tryz.prog.info? 9).map (fun i => (i.zero, i.size, i.bytes)) = some (some (.string ⟨#[]⟩), 1, 16) := by kernel_rfl
def rd_L4 (xs : List (List Int)) (i : Int) : (List Int) := xs.getD i.toNat ([] : List Int)
structure SP46 (α : Type) where
  f0 : Int
  f1 : ByteArray
  f2 : ByteArray
  f3 : Int
  f4 : Int
  f5 : Int
  f6 : (List Int)
  f7 : List α
structure S73 where
  f0 : ByteArray
  f1 : (SP46 S73)
abbrev S46 := SP46 S73
def z73 : S73 := ⟨(⟨#[]⟩ : ByteArray), (⟨(0 : Int), (⟨#[]⟩ : ByteArray), (⟨#[]⟩ : ByteArray), (0 : Int), (0 : Int), (0 : Int), ([] : List Int), ([] : List S73)⟩ : SP46 S73)⟩
def F73 (d : Kd S73) : Kd S73 := Kd.iso (Kd.pair Kd.string (Kd.iso (Kd.pair (Kd.int .i64) (Kd.pair Kd.string (Kd.pair Kd.string (Kd.pair (Kd.int .i64) (Kd.pair (Kd.int .u64) (Kd.pair (Kd.int .u64) (Kd.pair (Kd.slice 5 (Kd.int .u8)) (Kd.slice 73 d)))))))) (fun x : SP46 S73 => (x.f0, x.f1, x.f2, x.f3, x.f4, x.f5, x.f6, x.f7)))) (fun x : S73 => (x.f0, x.f1))
theorem mono73 : Kd.Mono F73 := Kd.mono_iso _ (Kd.mono_pair (Kd.mono_const _) (Kd.mono_iso _ (Kd.mono_pair (Kd.mono_const _) (Kd.mono_pair (Kd.mono_const _) (Kd.mono_pair (Kd.mono_const _) (Kd.mono_pair (Kd.mono_const _) (Kd.mono_pair (Kd.mono_const _) (Kd.mono_pair (Kd.mono_const _) (Kd.mono_pair (Kd.mono_const _) (Kd.mono_slice 73 Kd.mono_id))))))))))
theorem sub73 : Kd.Sub F73 [5, 73] := Kd.sub_iso _ (Kd.sub_pair (Kd.sub_const _ (by decide)) (Kd.sub_iso _ (Kd.sub_pair (Kd.sub_const _ (by decide)) (Kd.sub_pair (Kd.sub_const _ (by decide)) (Kd.sub_pair (Kd.sub_const _ (by decide)) (Kd.sub_pair (Kd.sub_const _ (by decide)) (Kd.sub_pair (Kd.sub_const _ (by decide)) (Kd.sub_pair (Kd.sub_const _ (by decide)) (Kd.sub_pair (Kd.sub_const _ (by decide)) (Kd.sub_slice 73 (by decide) Kd.sub_id))))))))))
theorem sz73 : ∀ n, (Kd.upto F73 9 [5, 73] n).sz = 9 := Kd.upto_sz (fun _ => rfl)
def k73 : Kd S73 := Kd.fix F73 9 [5, 73] sz73 (Kd.upto_E sub73)
theorem k73_heap : Kd.Heap k73 := Kd.heap_fix (fun _ h_ => Kd.heap_iso _ (Kd.heap_pair Kd.heap_string (Kd.heap_iso _ (Kd.heap_pair (Kd.heap_int .i64) (Kd.heap_pair Kd.heap_string (Kd.heap_pair Kd.heap_string (Kd.heap_pair (Kd.heap_int .i64) (Kd.heap_pair (Kd.heap_int .u64) (Kd.heap_pair (Kd.heap_int .u64) (Kd.heap_pair (Kd.heap_slice 5 (Kd.heap_int .u8)) (Kd.heap_slice 73 h_)))))))))))
theorem k73_open {w : World} {x : S73} {cs : List Value} (h : k73.K w x cs) : ∃ A7 c7 A8 c8, cs = [.string x.f0, .int .i64 x.f1.f0, .string x.f1.f1, .string x.f1.f2, .int .i64 x.f1.f3, .int .u64 x.f1.f4, .int .u64 x.f1.f5, .slice A7 x.f1.f6.length c7, .slice A8 x.f1.f7.length c8] ∧ x.f1.f6.length ≤ c7 ∧ (Kd.int .u8).C w A7 x.f1.f6.length x.f1.f6 ∧ x.f1.f7.length ≤ c8 ∧ k73.C w A8 x.f1.f7.length x.f1.f7 := by
  obtain ⟨n, h⟩ := h
  cases n with
  | zero => exact h.elim
  | succ n =>
    obtain ⟨_, _, rfl, rfl, ⟨_, _, rfl, rfl, ⟨_, _, rfl, rfl, ⟨_, _, rfl, rfl, ⟨_, _, rfl, rfl, ⟨_, _, rfl, rfl, ⟨_, _, rfl, rfl, ⟨_, _, rfl, ⟨A7, c7, rfl, l7, g7⟩, ⟨A8, c8, rfl, l8, g8⟩⟩⟩⟩⟩⟩⟩⟩⟩ := h
    exact ⟨A7, c7, A8, c8, rfl, l7, g7, l8, Kd.fix_C g8⟩
theorem k73_mk (w : World) (x : S73) {A7 : Option Addr} {c7 : Nat} (l7 : x.f1.f6.length ≤ c7) (g7 : (Kd.int .u8).C w A7 x.f1.f6.length x.f1.f6) {A8 : Option Addr} {c8 : Nat} (l8 : x.f1.f7.length ≤ c8) (g8 : k73.C w A8 x.f1.f7.length x.f1.f7) : k73.K w x [.string x.f0, .int .i64 x.f1.f0, .string x.f1.f1, .string x.f1.f2, .int .i64 x.f1.f3, .int .u64 x.f1.f4, .int .u64 x.f1.f5, .slice A7 x.f1.f6.length c7, .slice A8 x.f1.f7.length c8] := by
  obtain ⟨n8, q8⟩ := Kd.fix_C_back mono73 g8
  have r8 := Kd.upto_C_le mono73 sz73 (show n8 ≤ n8 by omega) q8
  exact ⟨n8 + 1, ⟨[.string x.f0], [.int .i64 x.f1.f0, .string x.f1.f1, .string x.f1.f2, .int .i64 x.f1.f3, .int .u64 x.f1.f4, .int .u64 x.f1.f5, .slice A7 x.f1.f6.length c7, .slice A8 x.f1.f7.length c8], rfl, rfl, ⟨[.int .i64 x.f1.f0], [.string x.f1.f1, .string x.f1.f2, .int .i64 x.f1.f3, .int .u64 x.f1.f4, .int .u64 x.f1.f5, .slice A7 x.f1.f6.length c7, .slice A8 x.f1.f7.length c8], rfl, rfl, ⟨[.string x.f1.f1], [.string x.f1.f2, .int .i64 x.f1.f3, .int .u64 x.f1.f4, .int .u64 x.f1.f5, .slice A7 x.f1.f6.length c7, .slice A8 x.f1.f7.length c8], rfl, rfl, ⟨[.string x.f1.f2], [.int .i64 x.f1.f3, .int .u64 x.f1.f4, .int .u64 x.f1.f5, .slice A7 x.f1.f6.length c7, .slice A8 x.f1.f7.length c8], rfl, rfl, ⟨[.int .i64 x.f1.f3], [.int .u64 x.f1.f4, .int .u64 x.f1.f5, .slice A7 x.f1.f6.length c7, .slice A8 x.f1.f7.length c8], rfl, rfl, ⟨[.int .u64 x.f1.f4], [.int .u64 x.f1.f5, .slice A7 x.f1.f6.length c7, .slice A8 x.f1.f7.length c8], rfl, rfl, ⟨[.int .u64 x.f1.f5], [.slice A7 x.f1.f6.length c7, .slice A8 x.f1.f7.length c8], rfl, rfl, ⟨[.slice A7 x.f1.f6.length c7], [.slice A8 x.f1.f7.length c8], rfl, ⟨A7, c7, rfl, l7, g7⟩, ⟨A8, c8, rfl, l8, r8⟩⟩⟩⟩⟩⟩⟩⟩⟩⟩
theorem k73_mkM (w : World) (base : Nat) (ok : Nat → Prop) (x : S73) {v7 : Value} (g7 : (Kd.int .u8).R 5 w base ok v7 x.f1.f6) {v8 : Value} (g8 : k73.R 73 w base ok v8 x.f1.f7) : k73.M w base ok x [.string x.f0, .int .i64 x.f1.f0, .string x.f1.f1, .string x.f1.f2, .int .i64 x.f1.f3, .int .u64 x.f1.f4, .int .u64 x.f1.f5, v7, v8] := by
  obtain ⟨n8, q8⟩ := Kd.fix_R_back mono73 g8
  have r8 := Kd.upto_R_le mono73 sz73 (show n8 ≤ n8 by omega) q8
  exact ⟨n8 + 1, ⟨[.string x.f0], [.int .i64 x.f1.f0, .string x.f1.f1, .string x.f1.f2, .int .i64 x.f1.f3, .int .u64 x.f1.f4, .int .u64 x.f1.f5, v7, v8], rfl, rfl, ⟨[.int .i64 x.f1.f0], [.string x.f1.f1, .string x.f1.f2, .int .i64 x.f1.f3, .int .u64 x.f1.f4, .int .u64 x.f1.f5, v7, v8], rfl, rfl, ⟨[.string x.f1.f1], [.string x.f1.f2, .int .i64 x.f1.f3, .int .u64 x.f1.f4, .int .u64 x.f1.f5, v7, v8], rfl, rfl, ⟨[.string x.f1.f2], [.int .i64 x.f1.f3, .int .u64 x.f1.f4, .int .u64 x.f1.f5, v7, v8], rfl, rfl, ⟨[.int .i64 x.f1.f3], [.int .u64 x.f1.f4, .int .u64 x.f1.f5, v7, v8], rfl, rfl, ⟨[.int .u64 x.f1.f4], [.int .u64 x.f1.f5, v7, v8], rfl, rfl, ⟨[.int .u64 x.f1.f5], [v7, v8], rfl, rfl, ⟨[v7], [v8], rfl, ⟨v7, rfl, g7⟩, ⟨v8, rfl, r8⟩⟩⟩⟩⟩⟩⟩⟩⟩⟩
theorem k73_openF {W : World} {ok : Nat → Prop} {x : S73} {cs : List Value} (h : Kd.FK k73 W ok x cs) : ∃ A7 c7 A8 c8, cs = [.string x.f0, .int .i64 x.f1.f0, .string x.f1.f1, .string x.f1.f2, .int .i64 x.f1.f3, .int .u64 x.f1.f4, .int .u64 x.f1.f5, .slice A7 x.f1.f6.length c7, .slice A8 x.f1.f7.length c8] ∧ x.f1.f6.length ≤ c7 ∧ Kd.F (Kd.int .u8) W ok A7 x.f1.f6.length x.f1.f6 ∧ x.f1.f7.length ≤ c8 ∧ Kd.F k73 W ok A8 x.f1.f7.length x.f1.f7 := by
  obtain ⟨A7, c7, A8, c8, rfl, l7, _, l8, _⟩ := k73_open (Kd.FK_now h)
  exact ⟨A7, c7, A8, c8, rfl, l7, (fun W' hW => by obtain ⟨A7_, c7_, A8_, c8_, he, l7_, g7_, l8_, g8_⟩ := k73_open (h W' hW); injection (Option.some.inj (show some (Value.slice A7 x.f1.f6.length c7) = some (Value.slice A7_ x.f1.f6.length c7_) from congrArg (fun l => l[7]?) he)) with ha_ _ _; rw [ha_]; exact g7_), l8, (fun W' hW => by obtain ⟨A7_, c7_, A8_, c8_, he, l7_, g7_, l8_, g8_⟩ := k73_open (h W' hW); injection (Option.some.inj (show some (Value.slice A8 x.f1.f7.length c8) = some (Value.slice A8_ x.f1.f7.length c8_) from congrArg (fun l => l[8]?) he)) with ha_ _ _; rw [ha_]; exact g8_)⟩
def rd_T73 (xs : List S73) (i : Int) : S73 := xs.getD i.toNat z73
theorem at_T73 {w : World} {A : Option Addr} {n : Nat} {xs : List S73} (h : Kd.C k73 w A n xs) (i : Int) (h0 : 0 ≤ i) (h1 : i < n) : ∃ ad A7 c7 A8 c8, A = some ad ∧ w.cell? (ad.add (i.toNat * 9)) = some (.string (rd_T73 xs i).f0) ∧ w.cell? ⟨(ad.add (i.toNat * 9)).block, (ad.add (i.toNat * 9)).off + 1, none⟩ = some (.int .i64 (rd_T73 xs i).f1.f0) ∧ w.cell? ⟨(ad.add (i.toNat * 9)).block, (ad.add (i.toNat * 9)).off + 2, none⟩ = some (.string (rd_T73 xs i).f1.f1) ∧ w.cell? ⟨(ad.add (i.toNat * 9)).block, (ad.add (i.toNat * 9)).off + 3, none⟩ = some (.string (rd_T73 xs i).f1.f2) ∧ w.cell? ⟨(ad.add (i.toNat * 9)).block, (ad.add (i.toNat * 9)).off + 4, none⟩ = some (.int .i64 (rd_T73 xs i).f1.f3) ∧ w.cell? ⟨(ad.add (i.toNat * 9)).block, (ad.add (i.toNat * 9)).off + 5, none⟩ = some (.int .u64 (rd_T73 xs i).f1.f4) ∧ w.cell? ⟨(ad.add (i.toNat * 9)).block, (ad.add (i.toNat * 9)).off + 6, none⟩ = some (.int .u64 (rd_T73 xs i).f1.f5) ∧ w.cell? ⟨(ad.add (i.toNat * 9)).block, (ad.add (i.toNat * 9)).off + 7, none⟩ = some (.slice A7 (rd_T73 xs i).f1.f6.length c7) ∧ w.cell? ⟨(ad.add (i.toNat * 9)).block, (ad.add (i.toNat * 9)).off + 8, none⟩ = some (.slice A8 (rd_T73 xs i).f1.f7.length c8) ∧ (rd_T73 xs i).f1.f6.length ≤ c7 ∧ (Kd.int .u8).C w A7 (rd_T73 xs i).f1.f6.length (rd_T73 xs i).f1.f6 ∧ (rd_T73 xs i).f1.f7.length ≤ c8 ∧ k73.C w A8 (rd_T73 xs i).f1.f7.length (rd_T73 xs i).f1.f7 := by
  obtain ⟨ad, c, e, _, hK, hc0⟩ := Kd.C_get h z73 i h0 h1; have hc : ∀ j u, c[j]? = some u → w.cell? (ad.add (i.toNat * 9 + j)) = some u := hc0; obtain ⟨A7, c7, A8, c8, rfl, l7, g7, l8, g8⟩ := k73_open hK
  exact ⟨ad, A7, c7, A8, c8, e, hc 0 _ rfl, by rw [← add_field _ _ 1 (by omega)]; exact hc 1 _ rfl, by rw [← add_field _ _ 2 (by omega)]; exact hc 2 _ rfl, by rw [← add_field _ _ 3 (by omega)]; exact hc 3 _ rfl, by rw [← add_field _ _ 4 (by omega)]; exact hc 4 _ rfl, by rw [← add_field _ _ 5 (by omega)]; exact hc 5 _ rfl, by rw [← add_field _ _ 6 (by omega)]; exact hc 6 _ rfl, by rw [← add_field _ _ 7 (by omega)]; exact hc 7 _ rfl, by rw [← add_field _ _ 8 (by omega)]; exact hc 8 _ rfl, l7, g7, l8, g8⟩
def rd_L6 (xs : List (List S73)) (i : Int) : (List S73) := xs.getD i.toNat ([] : List S73)
def z46 : S46 := ⟨(0 : Int), (⟨#[]⟩ : ByteArray), (⟨#[]⟩ : ByteArray), (0 : Int), (0 : Int), (0 : Int), ([] : List Int), ([] : List S73)⟩
def k46 : Kd S46 := Kd.iso (Kd.pair (Kd.int .i64) (Kd.pair Kd.string (Kd.pair Kd.string (Kd.pair (Kd.int .i64) (Kd.pair (Kd.int .u64) (Kd.pair (Kd.int .u64) (Kd.pair (Kd.slice 5 (Kd.int .u8)) (Kd.slice 73 k73)))))))) (fun x : S46 => (x.f0, x.f1, x.f2, x.f3, x.f4, x.f5, x.f6, x.f7))
def rd_T46 (xs : List S46) (i : Int) : S46 := xs.getD i.toNat z46
end Go.Proofs.YtbfhpjkahobgnaaGreatDoor.PLo
