/- Plain laws on the told functions of this seat, without memory. Conditions: as each theorem states them. -/
import Derived.Test.YtanecebppagakaaGreatDoorProg
import Derived.Test.YtanecebppagakaaGreatDoorHW
import Derived.Below
import Derived.Deep.Draws
import Derived.OwnWalk
import Derived.Tactics
import Derived.WalkKit
import Derived.KernelRfl
import Derived.RowKit3
import Derived.Deep.LoopGhost
import Derived.Deep.QuietTactic
import Derived.BigQuiet
import Derived.WideLaws
import Derived.Deep.DeepCutAuto
import Derived.Deep.CutBlock
import Derived.Laws.Rows
import Derived.Outline
import Derived.StillTailTactics
import Derived.Deep.RegionHeld3
import Derived.Test.YtanecebppagakaaGreatDoorRb2
namespace Go.Proofs.YtanecebppagakaaGreatDoor.PRx.VT
open Go.RowKit Go.Proofs.YtanecebppagakaaGreatDoorW.PrintWords Go.Proofs.YtanecebppagakaaGreatDoorW.PrintLast Go.Proofs.YtanecebppagakaaGreatDoorW.PrintMore
set_option linter.unusedVariables false
set_option linter.unusedSimpArgs false
theorem or_comm_ (k : IntKind) (x y : Int) : bits .or k x y = bits .or k y x := by
  unfold bits
  simp only [BitVec.or_comm]
theorem rb_ts (n : Int) (h0 : 0 ≤ n) (h1 : n ≤ 18446744073709551615) (r : List Int) (hr : r.length ≤ 100000) : RO 17 (le8 n ++ r) ⟨#[]⟩ ⟨#[]⟩ 0 n 0 [] r := by
  have e : le8 n ++ r = le4 (n % 4294967296) ++ (le4 (n / 4294967296) ++ r) := by
    have a : le8 n = le4 (n % 4294967296) ++ le4 (n / 4294967296) := by
      simp only [le8, le4, List.cons_append, List.nil_append, List.cons.injEq, and_true]
      repeat' apply And.intro
      all_goals (first | trivial | omega)
    rw [a, List.append_assoc]
  have e1 := u32_le4 (n % 4294967296) (by omega) (by omega) (le4 (n / 4294967296) ++ r)
  have e2 := u32_le4 (n / 4294967296) (by omega) (by omega) r
  have e3 : Go.bits .or .u64 (IntKind.u64.wrap ((IntKind.u64.wrap (n / 4294967296)) * 4294967296)) (IntKind.u64.wrap (n % 4294967296)) = n := by
    rw [u64_wrap, u64_wrap, u64_wrap, or_comm_, or_high .u64 32 (by decide) (n % 4294967296 % 18446744073709551616) _ (by omega) (by omega) (by omega), u64_wrap]
    omega
  refine ⟨0, fun q _ => ?_⟩
  show impl_Read.f q 17 _ = _
  rw [e]
  simp only [impl_Read.f, bsoncore_ReadTimestamp.f, e1, e2, e3, Option.bind_some, own_ok r (by omega : r.length ≤ 1000000), if_true]
  rfl
theorem rb_scope (s : ByteArray) (hs : s.size ≤ 70000) (b : List Int) (hb : b.length ≤ 70000) (r : List Int) (hr : r.length ≤ 100000) :
    RO 15 (le4 ((4 + (s.size + 5) + (b.length + 5) : Nat) : Int) ++ ((le4 ((s.size + 1 : Nat) : Int) ++ (bytesOf s ++ [0])) ++ (le4 ((b.length + 5 : Nat) : Int) ++ (b ++ [0]))) ++ r) s ⟨#[]⟩ 0 0 0 (le4 ((b.length + 5 : Nat) : Int) ++ (b ++ [0])) r := by
  generalize hD : le4 ((b.length + 5 : Nat) : Int) ++ (b ++ [0]) = D
  have hDl : D.length = b.length + 5 := by rw [← hD]; simp only [List.length_append, le4_length, List.length_cons, List.length_nil]; omega
  have e : le4 ((4 + (s.size + 5) + (b.length + 5) : Nat) : Int) ++ ((le4 ((s.size + 1 : Nat) : Int) ++ (bytesOf s ++ [0])) ++ D) ++ r = le4 ((4 + (s.size + 5) + (b.length + 5) : Nat) : Int) ++ (le4 ((s.size + 1 : Nat) : Int) ++ (bytesOf s ++ (0 :: (D ++ r)))) := by simp only [List.append_assoc, List.cons_append, List.nil_append]
  have ht : (bytesOf s ++ (0 :: (D ++ r))).take s.size = bytesOf s := List.take_left' (bytesOf_length s)
  have hd : (bytesOf s ++ (0 :: (D ++ r))).drop (s.size + 1) = D ++ r := by
    rw [show bytesOf s ++ (0 :: (D ++ r)) = (bytesOf s ++ [0]) ++ (D ++ r) by simp]
    exact List.drop_left' (by rw [List.length_append, bytesOf_length]; rfl)
  have h := fun q => rs_ok s.size (bytesOf s ++ (0 :: (D ++ r))) (by omega) (by simp only [List.length_append, List.length_cons, bytesOf_length]; omega) q
  rw [ht, hd, PL.strOfNums_bytesOf] at h
  have hdoc : bsoncore_readLengthBytes.f (D ++ r) = some (D, r, true) := by
    have h := lb_ok (b.length + 5) ((b ++ [0]) ++ r) (by omega) (by omega) (by simp only [List.length_append, List.length_cons, List.length_nil]; omega)
    rw [← List.append_assoc, hD, List.take_left' hDl, List.drop_left' hDl] at h
    exact h
  have hc : ∀ q, bsoncore_ReadCodeWithScope.f (q + 2) (le4 ((4 + (s.size + 5) + (b.length + 5) : Nat) : Int) ++ (le4 ((s.size + 1 : Nat) : Int) ++ (bytesOf s ++ (0 :: (D ++ r))))) = some (s, D, r, true) := by
    intro q
    have hl : (le4 ((4 + (s.size + 5) + (b.length + 5) : Nat) : Int) ++ (le4 ((s.size + 1 : Nat) : Int) ++ (bytesOf s ++ (0 :: (D ++ r))))).length = 4 + (s.size + 5) + (b.length + 5) + r.length := by simp only [List.length_append, le4_length, List.length_cons, bytesOf_length, hDl]; omega
    unfold bsoncore_ReadCodeWithScope.f
    rw [readlen _ _ (by omega), Option.bind_some, if_pos rfl, decide_eq_false (by rw [hl, w64 (by omega) (by omega)]; omega), bsoncore_ReadCodeWithScope.j0, if_neg (by decide), h, Option.bind_some, if_pos rfl]
    simp only [bsoncore_ReadDocument.f, hdoc, Option.bind_some, if_true]
  refine ⟨2, fun q hq => ?_⟩
  obtain ⟨q, rfl⟩ : ∃ j, q = j + 2 := ⟨q - 2, by omega⟩
  show impl_Read.f (q + 2) 15 _ = _
  rw [e]
  simp only [impl_Read.f, hc, Option.bind_some, own_ok r (by omega : r.length ≤ 1000000), own_ok D (by omega : D.length ≤ 1000000), if_true]
  rfl

end Go.Proofs.YtanecebppagakaaGreatDoor.PRx.VT
