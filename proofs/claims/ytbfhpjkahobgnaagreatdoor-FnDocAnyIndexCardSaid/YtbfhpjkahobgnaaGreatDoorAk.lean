/- Plain laws on the told functions of this seat, without memory. Conditions: as each theorem states them. -/
import Derived.Test.YtbfhpjkahobgnaaGreatDoorProg
import Derived.Test.YtbfhpjkahobgnaaGreatDoorHW
import Derived.Below
import Derived.Deep.Draws
import Derived.OwnWalk
import Derived.Tactics
import Derived.WalkKit
import Derived.KernelRfl
import Derived.RowKit3
import Derived.Deep.LoopGhost
import Derived.Deep.QuietTactic
import Derived.BigQuiet
import Derived.WideLaws
import Derived.Deep.DeepCutAuto
import Derived.Deep.CutBlock
import Derived.Laws.Rows
import Derived.Outline
import Derived.StillTailTactics
import Derived.Deep.RegionHeld3
import Derived.Test.YtbfhpjkahobgnaaGreatDoorAj
namespace Go.Proofs.YtbfhpjkahobgnaaGreatDoor.PIx.VT
open Go.RowKit Go.Proofs.YtbfhpjkahobgnaaGreatDoorW.PrintWords Go.Proofs.YtbfhpjkahobgnaaGreatDoorW.PrintLast Go.Proofs.YtbfhpjkahobgnaaGreatDoorW.PrintMore
set_option linter.unusedVariables false
set_option linter.unusedSimpArgs false
theorem take_elem (y : Int) (a t : List Int) (m : Nat) : (y :: (a ++ 0 :: t)).take (a.length + 2 + m) = y :: (a ++ 0 :: t.take m) := by
  rw [show a.length + 2 + m = (a.length + (m + 1)) + 1 by omega, List.take_succ_cons, List.take_length_add_append, List.take_succ_cons]
/-- The parts of an element's bytes. -/
theorem part_ev (y : Int) (a v : List Int) (hl : (y :: (a ++ 0 :: v)).length ≤ 6000) (hw : ∀ x, x ∈ y :: (a ++ 0 :: v) → (Lit.int .u8 x).wf = true) (h : ∀ x ∈ a, x ≠ 0) : Ev (fun k => spec_docPart.f k (y :: (a ++ 0 :: v))) (strOfNums a, y, v, y :: (a ++ 0 :: v)) := by
  obtain ⟨L, hL⟩ : ∃ L, L = y :: (a ++ 0 :: v) := ⟨_, rfl⟩
  have hlen : L.length = a.length + 2 + v.length := by rw [hL]; simp only [List.length_cons, List.length_append]; omega
  have hd1 : L.drop 1 = a ++ 0 :: v := by rw [hL]; rfl
  have hd : L.drop (a.length + 2) = v := by rw [hL, show a.length + 2 = (a.length + 1) + 1 from rfl, List.drop_succ_cons]; simp
  have hr : rd L 0 = y := by rw [hL]; rfl
  have hy := wy (hw y (by simp))
  rw [← hL] at hl hw ⊢
  have hw1 : ∀ x, x ∈ a ++ 0 :: v → (Lit.int .u8 x).wf = true := fun x hx => hw x (by rw [hL]; exact List.mem_cons_of_mem _ hx)
  have hl1 : (a ++ 0 :: v).length ≤ 6000 := by rw [← hd1, List.length_drop]; omega
  have e2 : wrap64 (1 + ((a.length + 1 : Nat) : Int)) = ((a.length + 2 : Nat) : Int) := by rw [w64 (by omega) (by omega)]; omega
  refine Ev.congr (f := fun k => (spec_DocName.f k (a ++ 0 :: v)).bind fun bt137 => (if 0 < (L.length : Int) then (if 0 ≤ (wrap64 (1 + bt137.2.1)) then (if (wrap64 (1 + bt137.2.1)) ≤ (L.length : Int) then (some (bt137.1, wrap64 (rd L 0), (L.drop ((wrap64 (1 + bt137.2.1)) : Int).toNat), L)) else (none)) else (none)) else (none))) (fun k => ?_) (Ev.bind (name_at (a ++ 0 :: v) a v hl1 hw1 rfl h) (Ev.congr (fun k => ?_) (Ev.now _)))
  · rw [spec_docPart.f, if_pos (by omega), hd1]
  · dsimp only
    rw [e2]
    clear e2
    rw [if_pos (by omega), if_pos (by omega), if_pos (by omega), Int.toNat_natCast, hd, hr, hy]
/-- A value's bytes, read. -/
theorem rv_ev (y : Int) (v : List Int) (m' : Int) (b s : Bool) (ev1 : Ev (fun q => bsoncore_valueLength.f q v y) (m', b)) (hb : b = true → 0 ≤ m' ∧ m' ≤ 2147483647) (hs : s = (b && decide (m' ≤ (v.length : Int)))) : Ev (fun k => bsoncore_ReadValue.f k v y) (if s = true then (y, v.take m'.toNat, v.drop m'.toNat, true) else (0, [], v, false)) := by
  have h1 : Ev (fun k => bsoncore_readValue.f k v y) (if s = true then (v.take m'.toNat, v.drop m'.toNat, true) else (([] : List Int), v, false)) := by
    refine Ev.bind ev1 ?_
    cases b with
    | false =>
      have hs : s = false := by rw [hs]; rfl
      subst hs
      exact Ev.congr (f := fun k => bsoncore_readValue.j0 k v m' true) (fun k => if_neg Bool.false_ne_true) (Ev.step (fun k => by rw [bsoncore_readValue.j0, if_pos rfl]; rfl) (Ev.now _))
    | true =>
      obtain ⟨h0, h9⟩ := hb rfl
      have e : wrap64 m' = m' := w64 (by omega) (by omega)
      refine Ev.congr (f := fun k => bsoncore_readValue.j0 k v m' (decide (m' > (v.length : Int)))) (fun k => by dsimp only; rw [if_pos rfl, e]) ?_
      clear e
      by_cases hm : m' ≤ (v.length : Int)
      · have hs : s = true := by rw [hs, decide_eq_true hm]; rfl
        subst hs
        rw [decide_eq_false (show ¬ m' > (v.length : Int) by omega)]
        exact Ev.step (fun k => by rw [bsoncore_readValue.j0, if_neg (by decide), if_pos h0, if_pos hm]; rfl) (Ev.now _)
      · have hs : s = false := by rw [hs, decide_eq_false hm]; rfl
        subst hs
        rw [decide_eq_true (show m' > (v.length : Int) by omega)]
        exact Ev.step (fun k => by rw [bsoncore_readValue.j0, if_pos rfl]; rfl) (Ev.now _)
  cases s with
  | true => exact Ev.bind h1 (Ev.congr (fun k => if_pos rfl) (Ev.now _))
  | false => exact Ev.bind h1 (Ev.congr (fun k => if_neg Bool.false_ne_true) (Ev.now _))
/-- An element: whether its value is one, and what it tells. -/
def Good (p : S27) : Prop := wrap64 p.f1.f0 = p.f1.f0 ∧ p.f2.length ≤ 6000 ∧ ∃ (s : Bool) (r : Int × List Int), Ev (fun k => spec_DocGood.f k p.f0 p.f1.f0 p.f1.f1 p.f2) s ∧ Ev (fun k => val.f k p.f2) r ∧ r.2.length ≤ 6000 ∧ (s = true → r = (p.f1.f0, p.f1.f1))
theorem good_ev (y : Int) (a t : List Int) (m : Nat) (hl : (y :: (a ++ 0 :: t)).length ≤ 6000) (hw : ∀ x, x ∈ y :: (a ++ 0 :: t) → (Lit.int .u8 x).wf = true) (h : ∀ x ∈ a, x ≠ 0) (hm : m ≤ t.length) (hv : Ev (fun q => bsoncore_valueLength.f q t y) ((m : Int), true)) : Good ⟨strOfNums a, ⟨y, t.take m⟩, y :: (a ++ 0 :: t.take m)⟩ := by
  have hy := wy (hw y (by simp))
  have hlt : (t.take m).length = m := by rw [List.length_take]; omega
  have hL : (y :: (a ++ 0 :: t)).length = a.length + 2 + t.length := by simp only [List.length_cons, List.length_append]; omega
  have hE : (y :: (a ++ 0 :: t.take m)).length = a.length + 2 + m := by simp only [List.length_cons, List.length_append]; omega
  have hwt : ∀ x, x ∈ t → (Lit.int .u8 x).wf = true := fun x hx => hw x (by simp [hx])
  have hwv : ∀ x, x ∈ t.take m → (Lit.int .u8 x).wf = true := fun x hx => hwt x (List.mem_of_mem_take hx)
  have hwa : ∀ x, x ∈ a → (Lit.int .u8 x).wf = true := fun x hx => hw x (by simp [hx])
  obtain ⟨m', b, w, s, ev1, ev2, hb, hs, hsw⟩ := span_val y (t.take m) (by omega) hwv
  have rv := rv_ev y (t.take m) m' b s ev1 hb hs
  have hpre : s = true → m' = (m : Int) := fun h => by
    have hbt : b = true := by rw [hs] at h; exact (Bool.and_eq_true_iff.mp h).1
    rw [hbt] at ev1
    exact span_pre y t (by omega) hwt m hm hv m' ev1
  refine ⟨hy, (show (y :: (a ++ 0 :: t.take m)).length ≤ 6000 by omega), s, (if s = true then (y, (t.take m).take m'.toNat) else (0, [])), Ev.bind ev2 (Ev.now _), ?_, ?_, ?_⟩
  · have hi : Lib.indexByte (Lib.bytesOf ((y :: (a ++ 0 :: t.take m)).drop 1)) 0 = (a.length : Int) := index_at a (t.take m) hwa h
    have hok : elemOk (y :: (a ++ 0 :: t.take m)) = true := by
      unfold elemOk
      rw [hi, hE, decide_eq_true (by omega), decide_eq_true (by omega), decide_eq_true (by omega)]
      rfl
    have hd : (y :: (a ++ 0 :: t.take m)).drop (a.length + 2) = t.take m := by rw [show a.length + 2 = (a.length + 1) + 1 from rfl, List.drop_succ_cons]; simp
    refine Ev.congr (f := fun k => (bsoncore_ReadValue.f k (t.take m) y).bind fun t => if t.2.2.2 = true then some (t.1, t.2.1) else if t.1 = 0 ∧ t.2.1 = [] then some (0, []) else none) (fun k => ?_) (Ev.bind rv ?_)
    · rw [val.f, if_pos hok, hi, Int.toNat_natCast, hd]
      rfl
    · cases s with
      | true => exact Ev.congr (fun k => if_pos rfl) (Ev.now _)
      | false => exact Ev.congr (fun k => (if_neg Bool.false_ne_true).trans (if_pos ⟨rfl, rfl⟩)) (Ev.now _)
  · cases s with
    | true => rw [if_pos rfl]; show ((t.take m).take m'.toNat).length ≤ 6000; rw [List.length_take]; omega
    | false => rw [if_neg (by decide)]; show 0 ≤ 6000; omega
  · intro hst
    subst hst
    rw [if_pos rfl, hpre rfl, Int.toNat_natCast, List.take_of_length_le (by omega)]
/-- What the search for an element with a number tells. -/
def found (qs : List S27) (ok : Bool) (j : Nat) : List Int × Int := match qs[j]? with | some q => (q.f2, 0) | none => if ok = true then ([], 7) else ([], 1)
theorem parts_ev : ∀ (n : Nat) (rest : List Int), rest.length ≤ n → rest.length ≤ 6000 → (∀ x, x ∈ rest → (Lit.int .u8 x).wf = true) → ∀ (left : Int), -100000 ≤ left → left ≤ 2147483647 → ∀ (ps : List S27), ps.length + rest.length ≤ 6000 → ∃ (qs : List S27) (re : List Int) (ok : Bool), Ev (fun k => spec_DocParts.l0 k ps rest left) (ps ++ qs, re, ok) ∧ (∀ q ∈ qs, Good q) ∧ ∀ j : Nat, Ev (fun k => idx.l0 k ((ps.length + j : Nat) : Int) left rest (ps.length : Int)) (found qs ok j) := by
  intro n
  induction n with
  | zero =>
    intro rest hn hl hw left h0 h1 ps hp
    have hr : rest = [] := List.length_eq_zero_iff.mp (by omega)
    subst hr
    by_cases hleft : left > 1
    · refine ⟨[], [], false, Ev.step (fun k => by rw [spec_DocParts.l0, if_pos hleft, spec_DocFirst.f, if_pos (by rfl), Option.bind_some, if_neg (by decide), List.append_nil]) (Ev.now _), (fun q hq => by cases hq), fun j => Ev.step (fun k => by rw [idx.l0, if_pos hleft, bsoncore_ReadElement.f, if_pos (by decide), Option.bind_some, if_neg (by decide)]; rfl) (Ev.now _)⟩
    · exact ⟨[], [], true, Ev.step (fun k => by rw [spec_DocParts.l0, if_neg hleft, List.append_nil]) (Ev.now _), (fun q hq => by cases hq), fun j => Ev.step (fun k => by rw [idx.l0, if_neg hleft]; rfl) (Ev.now _)⟩
  | succ n ih =>
    intro rest hn hl hw left h0 h1 ps hp
    by_cases hleft : left > 1
    rotate_left
    · exact ⟨[], rest, true, Ev.step (fun k => by rw [spec_DocParts.l0, if_neg hleft, List.append_nil]) (Ev.now _), (fun q hq => by cases hq), fun j => Ev.step (fun k => by rw [idx.l0, if_neg hleft]; rfl) (Ev.now _)⟩
    rcases first_ev rest hl hw with ⟨z, e1, e2⟩ | ⟨y, a, t, m, he, ha, hm, hv, e1, e2⟩
    · refine ⟨[], rest, false, Ev.step (f := fun k => (spec_DocFirst.f k rest).bind _) (fun k => by rw [spec_DocParts.l0, if_pos hleft]) (Ev.bind e1 (Ev.congr (fun k => by dsimp only; rw [if_neg (by decide), List.append_nil]) (Ev.now _))), (fun q hq => by cases hq), fun j => Ev.step (f := fun k => (bsoncore_ReadElement.f k rest).bind _) (fun k => by rw [idx.l0, if_pos hleft]) (Ev.bind e2 (Ev.congr (fun k => by dsimp only; rw [if_neg (by decide)]; rfl) (Ev.now _)))⟩
    · have hL : rest.length = a.length + 2 + t.length := by rw [he]; simp only [List.length_cons, List.length_append]; omega
      have hT : rest.take (a.length + 2 + m) = y :: (a ++ 0 :: t.take m) := by rw [he]; exact take_elem y a t m
      have hE : (y :: (a ++ 0 :: t.take m)).length = a.length + 2 + m := by rw [← hT, List.length_take]; omega
      have hG := good_ev y a t m (by rw [← he]; exact hl) (by rw [← he]; exact hw) ha hm hv
      have hP := part_ev y a (t.take m) (by omega) (fun x hx => hw x (by rw [← hT] at hx; exact List.mem_of_mem_take hx)) ha
      generalize hq0 : (⟨strOfNums a, ⟨y, t.take m⟩, y :: (a ++ 0 :: t.take m)⟩ : S27) = q0 at hG
      have hdl : (rest.drop (a.length + 2 + m)).length = t.length - m := by rw [List.length_drop]; omega
      have hq2 : q0.f2 = y :: (a ++ 0 :: t.take m) := by rw [← hq0]
      have hq2l : q0.f2.length = a.length + 2 + m := by rw [hq2, hE]
      obtain ⟨N, hN⟩ : ∃ N, N = a.length + 2 + m := ⟨_, rfl⟩
      rw [← hN] at e1 e2 hdl hT hq2l
      rw [← hq2] at hT hP
      have hpl : (ps ++ [q0]).length = ps.length + 1 := by simp
      obtain ⟨qs, re, ok, f1, f2, f3⟩ := ih (rest.drop N) (by omega) (by omega) (fun x hx => hw x (List.mem_of_mem_drop hx)) (left - N) (by omega) (by omega) (ps ++ [q0]) (by omega)
      have el64 : wrap64 (left - (N : Int)) = left - N := w64 (by omega) (by omega)
      have ew : wrap32 (N : Int) = (N : Int) := by clear el64; exact w32 (by omega) (by omega)
      have el32 : wrap32 (left - (N : Int)) = left - N := by clear el64 ew; exact w32 (by omega) (by omega)
      have eu : IntKind.u64.wrap ((ps.length : Int) + 1) = (((ps ++ [q0]).length : Nat) : Int) := by
        clear el64 ew el32
        rw [hpl]
        simp only [IntKind.wrap, IntKind.bits, IntKind.signed]
        show ((ps.length : Int) + 1) % 18446744073709551616 = _
        omega
      refine ⟨q0 :: qs, re, ok, ?_, ?_, ?_⟩
      · refine Ev.step (f := fun k => (spec_DocFirst.f k rest).bind fun bt153 => (if bt153.2 = true then (if 0 ≤ bt153.1 then (if bt153.1 ≤ (rest.length : Int) then ((spec_docPart.f k (rest.take (bt153.1 : Int).toNat)).bind fun bt160 => (if ps.length < 1954687338268 then (spec_DocParts.l0 k (ps ++ [(⟨bt160.1, (⟨bt160.2.1, bt160.2.2.1⟩ : S25), bt160.2.2.2⟩ : S27)]) (rest.drop (bt153.1 : Int).toNat) (wrap64 (left - bt153.1))) else (none))) else (none)) else (none)) else (some (ps, rest, false)))) (fun k => by rw [spec_DocParts.l0, if_pos hleft]) (Ev.bind e1 ?_)
        refine Ev.congr (f := fun k => (spec_docPart.f k q0.f2).bind fun bt160 => (if ps.length < 1954687338268 then (spec_DocParts.l0 k (ps ++ [(⟨bt160.1, (⟨bt160.2.1, bt160.2.2.1⟩ : S25), bt160.2.2.2⟩ : S27)]) (rest.drop N) (left - N)) else (none))) (fun k => ?_) (Ev.bind hP ?_)
        · dsimp only
          rw [if_pos rfl, el64]
          clear el64 ew el32 eu
          rw [if_pos (by omega), if_pos (by omega), Int.toNat_natCast, hT]
        · refine Ev.congr (f := fun k => spec_DocParts.l0 k (ps ++ [q0]) (rest.drop N) (left - N)) (fun k => ?_) ?_
          · clear el64 ew el32 eu
            dsimp only
            rw [if_pos (by omega), hq2, hq0]
          · rw [show ps ++ q0 :: qs = (ps ++ [q0]) ++ qs by simp]
            exact f1
      · intro q hq
        rcases List.mem_cons.mp hq with rfl | hq
        · exact hG
        · exact f2 q hq
      · intro j
        refine Ev.step (f := fun k => (bsoncore_ReadElement.f k rest).bind fun bt => (if bt.2.2 = true then (if (ps.length : Int) = ((ps.length + j : Nat) : Int) then (some (bt.1, 0)) else (idx.l0 k ((ps.length + j : Nat) : Int) (wrap32 (left - (wrap32 ((bt.1.length : Int))))) bt.2.1 (IntKind.u64.wrap ((ps.length : Int) + 1)))) else (some ([], 1)))) (fun k => by rw [idx.l0, if_pos hleft]) (Ev.bind e2 ?_)
        rw [hT]
        cases j with
        | zero => exact Ev.congr (fun k => by dsimp only; rw [if_pos rfl, if_pos (by omega)]; rfl) (Ev.now _)
        | succ j =>
          have g := f3 j
          rw [← eu] at g
          refine Ev.congr (fun k => ?_) g
          dsimp only
          rw [if_pos rfl, hq2l, ew, el32, hpl, if_neg (by clear el64 ew el32 eu; omega), show ps.length + 1 + j = ps.length + (j + 1) by omega]

end Go.Proofs.YtbfhpjkahobgnaaGreatDoor.PIx.VT
