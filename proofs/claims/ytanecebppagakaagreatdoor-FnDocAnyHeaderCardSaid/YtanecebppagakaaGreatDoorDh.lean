/- The law FnDocAnyHeader in plain words: names up to the first byte 0. Conditions: as each theorem states them. -/
import Derived.Test.YtanecebppagakaaGreatDoorProg
import Derived.Test.YtanecebppagakaaGreatDoorHW
import Derived.Below
import Derived.Deep.Draws
import Derived.OwnWalk
import Derived.Tactics
import Derived.WalkKit
import Derived.KernelRfl
import Derived.RowKit3
import Derived.Deep.LoopGhost
import Derived.Deep.QuietTactic
import Derived.BigQuiet
import Derived.WideLaws
import Derived.Deep.DeepCutAuto
import Derived.Deep.CutBlock
import Derived.Laws.Rows
import Derived.Outline
import Derived.StillTailTactics
import Derived.Deep.RegionHeld3
import Derived.Test.YtanecebppagakaaGreatDoorPL
import Derived.Test.YtanecebppagakaaGreatDoorPAhx8
namespace Go.Proofs.YtanecebppagakaaGreatDoor.PAh.VT
open Go.RowKit Go.Proofs.YtanecebppagakaaGreatDoorW.PrintWords Go.Proofs.YtanecebppagakaaGreatDoorW.PrintLast Go.Proofs.YtanecebppagakaaGreatDoorW.PrintMore
set_option linter.unusedVariables false
set_option linter.unusedSimpArgs false
theorem w64 {x : Int} (h0 : -9223372036854775808 ≤ x) (h1 : x ≤ 9223372036854775807) : wrap64 x = x := by unfold wrap64; omega
theorem rd_mid (pre r : List Int) (x : Int) : rd (pre ++ x :: r) (pre.length : Int) = x := by
  unfold rd
  rw [Int.toNat_natCast]
  simp
theorem byte_zero {x : Int} (h : (Lit.int .u8 x).wf = true) : ((UInt8.ofNat x.toNat) == (0 : UInt8)) = decide (x = 0) := by
  obtain ⟨h0, h1⟩ := PL.wf_u8 h
  by_cases hx : x = 0
  · subst hx; rfl
  · rw [decide_eq_false hx]
    apply beq_false_of_ne
    intro hc
    have := congrArg UInt8.toNat hc
    simp at this
    omega
/-- A text up to the first byte 0: what the search finds. -/
theorem name_ev (l : List Int) (hl : l.length ≤ 5000) (hw : ∀ x, x ∈ l → (Lit.int .u8 x).wf = true) : ∀ (r pre : List Int), l = pre ++ r → (Lib.indexByte (Lib.bytesOf r) 0 = -1 ∧ Ev (fun k => spec_DocName.l0 k l (pre.length : Int)) ((⟨#[]⟩ : ByteArray), 0, false)) ∨ ∃ i : Nat, i < r.length ∧ Lib.indexByte (Lib.bytesOf r) 0 = (i : Int) ∧ Ev (fun k => spec_DocName.l0 k l (pre.length : Int)) (strOfNums (l.take (pre.length + i)), ((pre.length + i + 1 : Nat) : Int), true) := by
  intro r
  induction r with
  | nil => intro pre he; exact Or.inl ⟨rfl, Ev.step (fun k => by rw [spec_DocName.l0, if_neg (by rw [he]; simp)]) (Ev.now _)⟩
  | cons x r ih =>
    intro pre he
    have hlen : l.length = pre.length + (r.length + 1) := by rw [he]; simp
    have hx : rd l (pre.length : Int) = x := by rw [he]; exact rd_mid pre r x
    have hz := byte_zero (hw x (by rw [he]; simp))
    have e1 : wrap64 ((pre.length : Int) + 1) = ((pre.length + 1 : Nat) : Int) := by rw [w64 (by omega) (by omega)]; omega
    have hb : Lib.bytesOf (x :: r) = UInt8.ofNat x.toNat :: Lib.bytesOf r := rfl
    by_cases h0 : x = 0
    · refine Or.inr ⟨0, by simp, by rw [hb, Lib.indexByte, hz, decide_eq_true h0]; rfl, ?_⟩
      refine Ev.step (fun k => by rw [spec_DocName.l0, if_pos (by omega), if_pos (by omega), hx, if_pos h0, if_pos (by omega), e1, Int.toNat_natCast]) ?_
      rw [Nat.add_zero]
      exact Ev.now _
    · have hg : ∀ k, spec_DocName.l0 (k + 1) l (pre.length : Int) = spec_DocName.l0 k l (((pre ++ [x]).length : Nat) : Int) := fun k => by rw [spec_DocName.l0, if_pos (by omega), if_pos (by omega), hx, if_neg h0, e1]; simp
      rcases ih (pre ++ [x]) (by rw [he]; simp) with ⟨h1, ev⟩ | ⟨i, hi, h1, ev⟩
      · exact Or.inl ⟨by rw [hb, Lib.indexByte, hz, decide_eq_false h0, h1]; rfl, Ev.step hg ev⟩
      · refine Or.inr ⟨i + 1, by simp only [List.length_cons]; omega, ?_, ?_⟩
        · rw [hb, Lib.indexByte, hz, decide_eq_false h0, h1, if_neg (by decide), if_neg (by rw [beq_iff_eq]; omega)]
          omega
        · have e2 : (pre ++ [x]).length + i = pre.length + (i + 1) := by simp only [List.length_append, List.length_cons, List.length_nil]; omega
          rw [e2] at ev
          exact Ev.step hg ev
theorem own_ok (l : List Int) (hl : l.length ≤ 5000) : impl_own.f l = some l := by
  unfold impl_own.f
  rw [if_pos (by simp only [List.length_nil]; omega), List.nil_append]
theorem copy_ok (l : List Int) (hl : l.length ≤ 5000) : laws_docCopy.f l = some l := by
  unfold laws_docCopy.f
  rw [Option.bind_some, if_pos (by simp only [List.length_nil]; omega), List.nil_append]
theorem cstr_no (l : List Int) (h : Lib.indexByte (Lib.bytesOf l) 0 = -1) : binaryutil_ReadCString.f l = some ((⟨#[]⟩ : ByteArray), l, false) := by
  have hi : bytes_IndexByte.f l 0 = some (-1) := congrArg some h
  unfold binaryutil_ReadCString.f binaryutil_ReadCStringBytes.f
  rw [hi, Option.bind_some, if_pos (by decide)]
  rfl
theorem cstr_at (l : List Int) (hl : l.length ≤ 5000) (i : Nat) (hi : i < l.length) (h : Lib.indexByte (Lib.bytesOf l) 0 = (i : Int)) : binaryutil_ReadCString.f l = some (strOfNums (l.take i), l.drop (i + 1), true) := by
  have hi' : bytes_IndexByte.f l 0 = some (i : Int) := congrArg some h
  have e1 : wrap64 ((i : Int) + 1) = ((i + 1 : Nat) : Int) := by rw [w64 (by omega) (by omega)]; omega
  unfold binaryutil_ReadCString.f binaryutil_ReadCStringBytes.f
  rw [hi', Option.bind_some, if_neg (by omega), if_pos (by omega), if_pos (by omega), e1, if_pos (by omega), if_pos (by omega), Int.toNat_natCast, Int.toNat_natCast]
  rfl
/-- What is read as a name, and how long it is. -/
theorem key_ev (l : List Int) (hl : l.length ≤ 5000) (hw : ∀ x, x ∈ l → (Lit.int .u8 x).wf = true) : ∃ (nm : ByteArray) (n : Nat) (has : Bool), n ≤ l.length ∧ (has = false → n = 0) ∧ binaryutil_ReadCString.f l = some (nm, l.drop n, has) ∧ Ev (fun k => spec_DocName.f k l) (nm, (n : Int), has) := by
  rcases name_ev l hl hw l [] rfl with ⟨h1, ev⟩ | ⟨i, hi, h1, ev⟩
  · exact ⟨⟨#[]⟩, 0, false, by omega, fun _ => rfl, by rw [List.drop_zero]; exact cstr_no l h1, ev⟩
  · refine ⟨strOfNums (l.take i), i + 1, true, by omega, (fun h => by cases h), cstr_at l hl i hi h1, ?_⟩
    rw [List.length_nil, Nat.zero_add] at ev
    exact ev
theorem awake : Ev (fun k => laws_docAwake.f k) true := Ev.of (fun k => laws_docAwake.mono k) (k := 60) (by decide +kernel)
theorem same_text (l : List Int) : ((strOfNums l).toList == (strOfNums l).toList) = true := beq_self_eq_true _
theorem holds (l : List Int) (hw : ∀ x, x ∈ l → (Lit.int .u8 x).wf = true) : ∃ k, laws_FnDocAnyHeader.f k l = some true := by
  apply Ev.rounds
  by_cases h1 : (l.length : Int) > 2147483647
  · exact Ev.congr (fun k => by unfold laws_FnDocAnyHeader.f; rw [if_pos h1]) (Ev.now _)
  by_cases h2 : (l.length : Int) > 5000
  · exact Ev.congr (fun k => by unfold laws_FnDocAnyHeader.f; rw [if_neg h1, if_pos h2]) (Ev.now _)
  have hl : l.length ≤ 5000 := by omega
  obtain ⟨nm, n, has, hn, hz, hcs, ev⟩ := key_ev l hl hw
  have hkey : impl_ReadKey.f l = some (nm, l.drop n, has) := by
    unfold impl_ReadKey.f bsoncore_ReadKey.f
    rw [hcs]
    simp only [Option.bind_some]
    rw [own_ok _ (by rw [List.length_drop]; omega)]
    rfl
  have hcstr : impl_ReadCString.f l = some (nm, l.drop n, has) := by
    unfold impl_ReadCString.f
    rw [hcs]
    simp only [Option.bind_some]
    rw [own_ok _ (by rw [List.length_drop]; omega)]
    rfl
  have wrap0 : ∀ (kd : Int) (hnm : ByteArray) (rest : List Int) (ok : Bool), bsoncore_ReadHeader.f l = some (kd, hnm, rest, ok) → rest.length ≤ 5000 → impl_ReadHeader.f l = some (wrap64 kd, hnm, rest, ok) := by
    intro kd hnm rest ok h hr
    unfold impl_ReadHeader.f
    rw [h]
    simp only [Option.bind_some]
    rw [own_ok _ hr]
    rfl
  have main : ∀ (kd : Int) (hnm : ByteArray) (rest : List Int) (ok : Bool), impl_ReadHeader.f l = some (kd, hnm, rest, ok) → Ev (fun k => laws_FnDocAnyHeader.j0 k l kd hnm rest ok false) true → Ev (fun k => laws_FnDocAnyHeader.f k l) true := by
    intro kd hnm rest ok h evj
    refine Ev.congr (f := fun k => (spec_DocName.f k l).bind fun bt542 => (if (has != bt542.2.2) = true then (none) else (if (has != bt542.2.2) = true then (none) else (if 0 ≤ bt542.2.1 then (if bt542.2.1 ≤ (l.length : Int) then (if (strOfNums (l.drop n)).toList = (strOfNums (l.drop (bt542.2.1 : Int).toNat)).toList then (if (strOfNums (l.drop n)).toList = (strOfNums (l.drop (bt542.2.1 : Int).toNat)).toList then (if nm.toList = bt542.1.toList then (laws_FnDocAnyHeader.j0 k l kd hnm rest ok (nm.toList != bt542.1.toList)) else (none)) else (none)) else (none)) else (none)) else (none))))) (fun k => ?_) ?_
    · unfold laws_FnDocAnyHeader.f
      rw [if_neg h1, if_neg h2, copy_ok l hl, Option.bind_some, h, Option.bind_some, Option.bind_some, hkey, Option.bind_some, Option.bind_some, hcstr, Option.bind_some]
    · refine Ev.bind ev ?_
      refine Ev.congr (fun k => ?_) evj
      dsimp only
      rw [bne_self_eq_false, if_neg (by decide), if_neg (by decide), if_pos (by omega), if_pos (by omega), Int.toNat_natCast, if_pos rfl, if_pos rfl, if_pos rfl, bne_self_eq_false]
  by_cases h0 : l.length = 0
  · have hh : bsoncore_ReadHeader.f l = some (0, (⟨#[]⟩ : ByteArray), l, false) := by
      unfold bsoncore_ReadHeader.f bsoncore_ReadType.f
      rw [if_pos (by omega), Option.bind_some]
      rfl
    refine main _ _ _ _ (wrap0 _ _ _ _ hh hl) ?_
    refine Ev.step (fun k => by rw [laws_FnDocAnyHeader.j0, if_neg (by decide), if_pos (by omega)]) ?_
    exact Ev.bind awake (Ev.congr (fun k => by rw [if_pos rfl]; rfl) (Ev.now _))
  obtain ⟨nm1, n1, has1, hn1, hz1, hcs1, ev1⟩ := key_ev (l.drop 1) (by rw [List.length_drop]; omega) (fun x hx => hw x (List.mem_of_mem_drop hx))
  have hkey1 : bsoncore_ReadKey.f (l.drop 1) = some (nm1, (l.drop 1).drop n1, has1) := by
    unfold bsoncore_ReadKey.f
    rw [hcs1]
    rfl
  have htype : bsoncore_ReadType.f l = some (rd l 0, l.drop 1, true) := by
    unfold bsoncore_ReadType.f
    rw [if_neg (by omega), if_pos (by omega), if_pos (by omega)]
  rw [List.length_drop] at hn1
  cases has1 with
  | false =>
    have hh : bsoncore_ReadHeader.f l = some (0, (⟨#[]⟩ : ByteArray), l, false) := by
      unfold bsoncore_ReadHeader.f
      rw [htype, Option.bind_some, if_pos rfl, hkey1, Option.bind_some, if_neg (by simp)]
    refine main _ _ _ _ (wrap0 _ _ _ _ hh hl) ?_
    refine Ev.step (fun k => by rw [laws_FnDocAnyHeader.j0, if_neg (by decide), if_neg (by omega), if_pos (by omega)]) ?_
    refine Ev.bind ev1 ?_
    refine Ev.congr (fun k => by rw [if_neg (by simp)]) (Ev.bind awake ?_)
    exact Ev.congr (fun k => by rw [if_pos rfl, if_neg (by decide), same_text]) (Ev.now _)
  | true =>
    have hh : bsoncore_ReadHeader.f l = some (rd l 0, nm1, (l.drop 1).drop n1, true) := by
      unfold bsoncore_ReadHeader.f
      rw [htype, Option.bind_some, if_pos rfl, hkey1, Option.bind_some, if_pos rfl]
    have e1 : wrap64 (1 + (n1 : Int)) = ((1 + n1 : Nat) : Int) := by rw [w64 (by omega) (by omega)]; omega
    refine main _ _ _ _ (wrap0 _ _ _ _ hh (by rw [List.length_drop, List.length_drop]; omega)) ?_
    refine Ev.step (fun k => by rw [laws_FnDocAnyHeader.j0, if_neg (by decide), if_neg (by omega), if_pos (by omega)]) ?_
    refine Ev.bind ev1 ?_
    refine Ev.congr (fun k => by rw [if_pos rfl]) (Ev.bind awake ?_)
    refine Ev.congr (fun k => ?_) (Ev.now _)
    dsimp only
    rw [if_pos rfl, if_pos rfl, if_pos (by omega), if_pos rfl, if_pos rfl, e1, if_pos (by omega), if_pos (by omega), Int.toNat_natCast, List.drop_drop, same_text]

end Go.Proofs.YtanecebppagakaaGreatDoor.PAh.VT
