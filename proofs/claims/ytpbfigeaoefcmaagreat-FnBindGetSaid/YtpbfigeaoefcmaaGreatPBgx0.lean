import Derived.Test.YtpbfigeaoefcmaaGreatProg
import Derived.Test.YtpbfigeaoefcmaaGreatHW
import Derived.Test.YtpbfigeaoefcmaaGreatShelf
import Derived.Below
import Derived.Deep.Draws
import Derived.Deep.AppendLies
import Derived.Maps.AppendAt
import Derived.OwnWalk
import Derived.Laws.BytesArg
import Derived.Laws.MakeOwn
import Derived.Laws.OwnMore
import Derived.Deep.OwnRows
import Derived.Tactics
import Derived.Lib.ConvBytes
import Derived.Laws.Slices
import Derived.WalkKit
import Derived.KernelRfl
import Derived.RowKit3
import Derived.Deep.LoopGhost
import Derived.Deep.QuietTactic
import Derived.BigQuiet
import Derived.WideLaws
import Derived.Deep.DeepCutAuto
import Derived.Deep.CutBlock
import Derived.Deep.RegionHeld3
import Derived.Laws.Rows
import Derived.Lib.AppendStr
import Derived.ArgAppend
import Derived.Laws.IdiomCopy
import Derived.OrdersHeld
import Derived.Laws.BitsLemmas
import Derived.RowKit
import Derived.Test.YtpbfigeaoefcmaaGreatWWords
import Derived.Test.YtpbfigeaoefcmaaGreatWLast
import Derived.Test.YtpbfigeaoefcmaaGreatWTab
import Derived.Test.YtpbfigeaoefcmaaGreatWFour
import Derived.Test.YtpbfigeaoefcmaaGreatWQPut
import Derived.Test.YtpbfigeaoefcmaaGreatWApart
import Derived.Test.YtpbfigeaoefcmaaGreatWArr
import Derived.Test.YtpbfigeaoefcmaaGreatWZeros
import Derived.Test.YtpbfigeaoefcmaaGreatWFoot
import Derived.Test.YtpbfigeaoefcmaaGreatWKept
import Derived.Test.YtpbfigeaoefcmaaGreatWShare
import Derived.Test.YtpbfigeaoefcmaaGreatWN
import Derived.Test.YtpbfigeaoefcmaaGreatWFootNe
import Derived.Test.YtpbfigeaoefcmaaGreatWAt
import Derived.Test.YtpbfigeaoefcmaaGreatWEqStruct
import Derived.Test.YtpbfigeaoefcmaaGreatWRepsOne
import Derived.Test.YtpbfigeaoefcmaaGreatWInv
import Derived.Test.YtpbfigeaoefcmaaGreatWInvWords
import Derived.Test.YtpbfigeaoefcmaaGreatWGuard
import Derived.Test.YtpbfigeaoefcmaaGreatWNEv
import Derived.Test.YtpbfigeaoefcmaaGreatWMore
namespace Go.Proofs.YtpbfigeaoefcmaaGreat.PBg
open Go.RowKit Go.Proofs.YtpbfigeaoefcmaaGreatW.PrintWords Go.Proofs.YtpbfigeaoefcmaaGreatW.PrintLast Go.Proofs.YtpbfigeaoefcmaaGreatW.PrintMore
attribute [local go_sem] max2_int min2_int max_two min_two max_three min_three max_four min_four
set_option linter.unusedVariables false
set_option linter.unusedSimpArgs false
def errW : Option Int → Value
  | none => .nilIface
  | some c => .iface 0 (.int .i64 c)
theorem errW_none : errW none = .nilIface := rfl
theorem errW_some (c : Int) : errW (some c) = .iface 0 (.int .i64 c) := rfl
theorem info5 : (Tryz.prog.info? 5).map (fun i => (i.zero, i.size, i.bytes)) = some (some (.int .u8 0), 1, 1) := by kernel_rfl
def rd_L4 (xs : List (List Int)) (i : Int) : (List Int) := xs.getD i.toNat ([] : List Int)
structure SP26 (α : Type) where
  f0 : Int
  f1 : ByteArray
  f2 : ByteArray
  f3 : Int
  f4 : Int
  f5 : Int
  f6 : (List Int)
  f7 : List α
structure S89 where
  f0 : ByteArray
  f1 : (SP26 S89)
abbrev S26 := SP26 S89
def z89 : S89 := ⟨(⟨#[]⟩ : ByteArray), (⟨(0 : Int), (⟨#[]⟩ : ByteArray), (⟨#[]⟩ : ByteArray), (0 : Int), (0 : Int), (0 : Int), ([] : List Int), ([] : List S89)⟩ : SP26 S89)⟩
def F89 (d : Kd S89) : Kd S89 := Kd.iso (Kd.pair Kd.string (Kd.iso (Kd.pair (Kd.int .i64) (Kd.pair Kd.string (Kd.pair Kd.string (Kd.pair (Kd.int .i64) (Kd.pair (Kd.int .u64) (Kd.pair (Kd.int .u64) (Kd.pair (Kd.slice 5 (Kd.int .u8)) (Kd.slice 89 d)))))))) (fun x : SP26 S89 => (x.f0, x.f1, x.f2, x.f3, x.f4, x.f5, x.f6, x.f7)))) (fun x : S89 => (x.f0, x.f1))
theorem mono89 : Kd.Mono F89 := Kd.mono_iso _ (Kd.mono_pair (Kd.mono_const _) (Kd.mono_iso _ (Kd.mono_pair (Kd.mono_const _) (Kd.mono_pair (Kd.mono_const _) (Kd.mono_pair (Kd.mono_const _) (Kd.mono_pair (Kd.mono_const _) (Kd.mono_pair (Kd.mono_const _) (Kd.mono_pair (Kd.mono_const _) (Kd.mono_pair (Kd.mono_const _) (Kd.mono_slice 89 Kd.mono_id))))))))))
theorem sub89 : Kd.Sub F89 [5, 89] := Kd.sub_iso _ (Kd.sub_pair (Kd.sub_const _ (by decide)) (Kd.sub_iso _ (Kd.sub_pair (Kd.sub_const _ (by decide)) (Kd.sub_pair (Kd.sub_const _ (by decide)) (Kd.sub_pair (Kd.sub_const _ (by decide)) (Kd.sub_pair (Kd.sub_const _ (by decide)) (Kd.sub_pair (Kd.sub_const _ (by decide)) (Kd.sub_pair (Kd.sub_const _ (by decide)) (Kd.sub_pair (Kd.sub_const _ (by decide)) (Kd.sub_slice 89 (by decide) Kd.sub_id))))))))))
theorem sz89 : ∀ n, (Kd.upto F89 9 [5, 89] n).sz = 9 := Kd.upto_sz (fun _ => rfl)
def k89 : Kd S89 := Kd.fix F89 9 [5, 89] sz89 (Kd.upto_E sub89)
theorem k89_heap : Kd.Heap k89 := Kd.heap_fix (fun _ h_ => Kd.heap_iso _ (Kd.heap_pair Kd.heap_string (Kd.heap_iso _ (Kd.heap_pair (Kd.heap_int .i64) (Kd.heap_pair Kd.heap_string (Kd.heap_pair Kd.heap_string (Kd.heap_pair (Kd.heap_int .i64) (Kd.heap_pair (Kd.heap_int .u64) (Kd.heap_pair (Kd.heap_int .u64) (Kd.heap_pair (Kd.heap_slice 5 (Kd.heap_int .u8)) (Kd.heap_slice 89 h_)))))))))))
theorem k89_open {w : World} {x : S89} {cs : List Value} (h : k89.K w x cs) : ∃ A7 c7 A8 c8, cs = [.string x.f0, .int .i64 x.f1.f0, .string x.f1.f1, .string x.f1.f2, .int .i64 x.f1.f3, .int .u64 x.f1.f4, .int .u64 x.f1.f5, .slice A7 x.f1.f6.length c7, .slice A8 x.f1.f7.length c8] ∧ x.f1.f6.length ≤ c7 ∧ (Kd.int .u8).C w A7 x.f1.f6.length x.f1.f6 ∧ x.f1.f7.length ≤ c8 ∧ k89.C w A8 x.f1.f7.length x.f1.f7 := by
  obtain ⟨n, h⟩ := h
  cases n with
  | zero => exact h.elim
  | succ n =>
    obtain ⟨_, _, rfl, rfl, ⟨_, _, rfl, rfl, ⟨_, _, rfl, rfl, ⟨_, _, rfl, rfl, ⟨_, _, rfl, rfl, ⟨_, _, rfl, rfl, ⟨_, _, rfl, rfl, ⟨_, _, rfl, ⟨A7, c7, rfl, l7, g7⟩, ⟨A8, c8, rfl, l8, g8⟩⟩⟩⟩⟩⟩⟩⟩⟩ := h
    exact ⟨A7, c7, A8, c8, rfl, l7, g7, l8, Kd.fix_C g8⟩
theorem k89_mk (w : World) (x : S89) {A7 : Option Addr} {c7 : Nat} (l7 : x.f1.f6.length ≤ c7) (g7 : (Kd.int .u8).C w A7 x.f1.f6.length x.f1.f6) {A8 : Option Addr} {c8 : Nat} (l8 : x.f1.f7.length ≤ c8) (g8 : k89.C w A8 x.f1.f7.length x.f1.f7) : k89.K w x [.string x.f0, .int .i64 x.f1.f0, .string x.f1.f1, .string x.f1.f2, .int .i64 x.f1.f3, .int .u64 x.f1.f4, .int .u64 x.f1.f5, .slice A7 x.f1.f6.length c7, .slice A8 x.f1.f7.length c8] := by
  obtain ⟨n8, q8⟩ := Kd.fix_C_back mono89 g8
  have r8 := Kd.upto_C_le mono89 sz89 (show n8 ≤ n8 by omega) q8
  exact ⟨n8 + 1, ⟨[.string x.f0], [.int .i64 x.f1.f0, .string x.f1.f1, .string x.f1.f2, .int .i64 x.f1.f3, .int .u64 x.f1.f4, .int .u64 x.f1.f5, .slice A7 x.f1.f6.length c7, .slice A8 x.f1.f7.length c8], rfl, rfl, ⟨[.int .i64 x.f1.f0], [.string x.f1.f1, .string x.f1.f2, .int .i64 x.f1.f3, .int .u64 x.f1.f4, .int .u64 x.f1.f5, .slice A7 x.f1.f6.length c7, .slice A8 x.f1.f7.length c8], rfl, rfl, ⟨[.string x.f1.f1], [.string x.f1.f2, .int .i64 x.f1.f3, .int .u64 x.f1.f4, .int .u64 x.f1.f5, .slice A7 x.f1.f6.length c7, .slice A8 x.f1.f7.length c8], rfl, rfl, ⟨[.string x.f1.f2], [.int .i64 x.f1.f3, .int .u64 x.f1.f4, .int .u64 x.f1.f5, .slice A7 x.f1.f6.length c7, .slice A8 x.f1.f7.length c8], rfl, rfl, ⟨[.int .i64 x.f1.f3], [.int .u64 x.f1.f4, .int .u64 x.f1.f5, .slice A7 x.f1.f6.length c7, .slice A8 x.f1.f7.length c8], rfl, rfl, ⟨[.int .u64 x.f1.f4], [.int .u64 x.f1.f5, .slice A7 x.f1.f6.length c7, .slice A8 x.f1.f7.length c8], rfl, rfl, ⟨[.int .u64 x.f1.f5], [.slice A7 x.f1.f6.length c7, .slice A8 x.f1.f7.length c8], rfl, rfl, ⟨[.slice A7 x.f1.f6.length c7], [.slice A8 x.f1.f7.length c8], rfl, ⟨A7, c7, rfl, l7, g7⟩, ⟨A8, c8, rfl, l8, r8⟩⟩⟩⟩⟩⟩⟩⟩⟩⟩
def rd_T89 (xs : List S89) (i : Int) : S89 := xs.getD i.toNat z89
theorem at_T89 {w : World} {A : Option Addr} {n : Nat} {xs : List S89} (h : Kd.C k89 w A n xs) (i : Int) (h0 : 0 ≤ i) (h1 : i < n) : ∃ ad A7 c7 A8 c8, A = some ad ∧ w.cell? (ad.add (i.toNat * 9)) = some (.string (rd_T89 xs i).f0) ∧ w.cell? ⟨(ad.add (i.toNat * 9)).block, (ad.add (i.toNat * 9)).off + 1, none⟩ = some (.int .i64 (rd_T89 xs i).f1.f0) ∧ w.cell? ⟨(ad.add (i.toNat * 9)).block, (ad.add (i.toNat * 9)).off + 2, none⟩ = some (.string (rd_T89 xs i).f1.f1) ∧ w.cell? ⟨(ad.add (i.toNat * 9)).block, (ad.add (i.toNat * 9)).off + 3, none⟩ = some (.string (rd_T89 xs i).f1.f2) ∧ w.cell? ⟨(ad.add (i.toNat * 9)).block, (ad.add (i.toNat * 9)).off + 4, none⟩ = some (.int .i64 (rd_T89 xs i).f1.f3) ∧ w.cell? ⟨(ad.add (i.toNat * 9)).block, (ad.add (i.toNat * 9)).off + 5, none⟩ = some (.int .u64 (rd_T89 xs i).f1.f4) ∧ w.cell? ⟨(ad.add (i.toNat * 9)).block, (ad.add (i.toNat * 9)).off + 6, none⟩ = some (.int .u64 (rd_T89 xs i).f1.f5) ∧ w.cell? ⟨(ad.add (i.toNat * 9)).block, (ad.add (i.toNat * 9)).off + 7, none⟩ = some (.slice A7 (rd_T89 xs i).f1.f6.length c7) ∧ w.cell? ⟨(ad.add (i.toNat * 9)).block, (ad.add (i.toNat * 9)).off + 8, none⟩ = some (.slice A8 (rd_T89 xs i).f1.f7.length c8) ∧ (rd_T89 xs i).f1.f6.length ≤ c7 ∧ (Kd.int .u8).C w A7 (rd_T89 xs i).f1.f6.length (rd_T89 xs i).f1.f6 ∧ (rd_T89 xs i).f1.f7.length ≤ c8 ∧ k89.C w A8 (rd_T89 xs i).f1.f7.length (rd_T89 xs i).f1.f7 := by
  obtain ⟨ad, c, e, _, hK, hc0⟩ := Kd.C_get h z89 i h0 h1; have hc : ∀ j u, c[j]? = some u → w.cell? (ad.add (i.toNat * 9 + j)) = some u := hc0; obtain ⟨A7, c7, A8, c8, rfl, l7, g7, l8, g8⟩ := k89_open hK
  exact ⟨ad, A7, c7, A8, c8, e, hc 0 _ rfl, by rw [← add_field _ _ 1 (by omega)]; exact hc 1 _ rfl, by rw [← add_field _ _ 2 (by omega)]; exact hc 2 _ rfl, by rw [← add_field _ _ 3 (by omega)]; exact hc 3 _ rfl, by rw [← add_field _ _ 4 (by omega)]; exact hc 4 _ rfl, by rw [← add_field _ _ 5 (by omega)]; exact hc 5 _ rfl, by rw [← add_field _ _ 6 (by omega)]; exact hc 6 _ rfl, by rw [← add_field _ _ 7 (by omega)]; exact hc 7 _ rfl, by rw [← add_field _ _ 8 (by omega)]; exact hc 8 _ rfl, l7, g7, l8, g8⟩
def rd_L6 (xs : List (List S89)) (i : Int) : (List S89) := xs.getD i.toNat ([] : List S89)
def z26 : S26 := ⟨(0 : Int), (⟨#[]⟩ : ByteArray), (⟨#[]⟩ : ByteArray), (0 : Int), (0 : Int), (0 : Int), ([] : List Int), ([] : List S89)⟩
def k26 : Kd S26 := Kd.iso (Kd.pair (Kd.int .i64) (Kd.pair Kd.string (Kd.pair Kd.string (Kd.pair (Kd.int .i64) (Kd.pair (Kd.int .u64) (Kd.pair (Kd.int .u64) (Kd.pair (Kd.slice 5 (Kd.int .u8)) (Kd.slice 89 k89)))))))) (fun x : S26 => (x.f0, x.f1, x.f2, x.f3, x.f4, x.f5, x.f6, x.f7))
theorem k26_open {w : World} {x : S26} {cs : List Value} (h : k26.K w x cs) : ∃ A6 c6 A7 c7, cs = [.int .i64 x.f0, .string x.f1, .string x.f2, .int .i64 x.f3, .int .u64 x.f4, .int .u64 x.f5, .slice A6 x.f6.length c6, .slice A7 x.f7.length c7] ∧ x.f6.length ≤ c6 ∧ (Kd.int .u8).C w A6 x.f6.length x.f6 ∧ x.f7.length ≤ c7 ∧ k89.C w A7 x.f7.length x.f7 := by
  obtain ⟨_, _, rfl, rfl, ⟨_, _, rfl, rfl, ⟨_, _, rfl, rfl, ⟨_, _, rfl, rfl, ⟨_, _, rfl, rfl, ⟨_, _, rfl, rfl, ⟨_, _, rfl, ⟨A6, c6, rfl, l6, g6⟩, ⟨A7, c7, rfl, l7, g7⟩⟩⟩⟩⟩⟩⟩⟩ := h
  exact ⟨A6, c6, A7, c7, rfl, l6, g6, l7, g7⟩
def rd_T26 (xs : List S26) (i : Int) : S26 := xs.getD i.toNat z26
structure S32 where
  f0 : Int
  f1 : (List Int)
def z32 : S32 := ⟨(0 : Int), ([] : List Int)⟩
def k32 : Kd S32 := Kd.iso (Kd.pair (Kd.int .i64) (Kd.slice 5 (Kd.int .u8))) (fun x : S32 => (x.f0, x.f1))
def rd_T32 (xs : List S32) (i : Int) : S32 := xs.getD i.toNat z32
end Go.Proofs.YtpbfigeaoefcmaaGreat.PBg
