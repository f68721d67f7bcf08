/- Plain laws on the told functions of this seat, without memory. Conditions: as each theorem states them. -/
import Derived.Test.YtbfhpjkahobgnaaGreatDoorProg
import Derived.Test.YtbfhpjkahobgnaaGreatDoorHW
import Derived.Below
import Derived.Deep.Draws
import Derived.OwnWalk
import Derived.Tactics
import Derived.WalkKit
import Derived.KernelRfl
import Derived.RowKit3
import Derived.Deep.LoopGhost
import Derived.Deep.QuietTactic
import Derived.BigQuiet
import Derived.WideLaws
import Derived.Deep.DeepCutAuto
import Derived.Deep.CutBlock
import Derived.Laws.Rows
import Derived.Outline
import Derived.StillTailTactics
import Derived.Deep.RegionHeld3
import Derived.Test.YtbfhpjkahobgnaaGreatDoorAk
namespace Go.Proofs.YtbfhpjkahobgnaaGreatDoor.PIx.VT
open Go.RowKit Go.Proofs.YtbfhpjkahobgnaaGreatDoorW.PrintWords Go.Proofs.YtbfhpjkahobgnaaGreatDoorW.PrintLast Go.Proofs.YtbfhpjkahobgnaaGreatDoorW.PrintMore
set_option linter.unusedVariables false
set_option linter.unusedSimpArgs false
theorem whole_ev (l : List Int) (hl : l.length ≤ 6000) (hw : ∀ x, x ∈ l → (Lit.int .u8 x).wf = true) : ∃ (qs : List S27) (re : List Int) (ok : Bool), Ev (fun k => spec_DocParts.f k l) (qs, re, ok) ∧ (∀ q ∈ qs, Good q) ∧ ∀ j : Nat, Ev (fun k => idx.f k l (j : Int)) (found qs ok j) := by
  obtain ⟨n, ok, x, n0, n1, hok, hRL, hDN⟩ := first4 l hw
  by_cases hg : (ok && decide (0 ≤ n)) = true
  · obtain ⟨hk, hn⟩ := Bool.and_eq_true_iff.mp hg
    have hn := of_decide_eq_true hn
    rw [hg] at hRL
    obtain ⟨hx, h4⟩ := read_rest hRL
    subst hk
    have e64 : wrap64 (n - 4) = n - 4 := w64 (by omega) (by omega)
    have e32 : wrap32 (n - 4) = n - 4 := by clear e64; exact w32 (by omega) (by omega)
    obtain ⟨qs, re, ok, f1, f2, f3⟩ := parts_ev (l.drop 4).length (l.drop 4) (Nat.le_refl _) (by rw [List.length_drop]; omega) (fun x hx => hw x (List.mem_of_mem_drop hx)) (n - 4) (by omega) (by omega) [] (by rw [List.length_drop, List.length_nil]; omega)
    refine ⟨qs, re, ok, ?_, f2, fun j => ?_⟩
    · refine Ev.congr (f := fun k => spec_DocParts.j0 k l [] n false) (fun k => ?_) (Ev.step (fun k => ?_) f1)
      · rw [spec_DocParts.f, hDN, Option.bind_some, if_pos rfl, decide_eq_false (show ¬ (n, true).1 < 0 by show ¬ n < 0; omega)]
      · rw [spec_DocParts.j0, if_neg (by decide), if_pos (by omega), e64]
    · have g := f3 j
      rw [List.length_nil, Nat.zero_add] at g
      refine Ev.congr (fun k => ?_) g
      rw [idx.f, hRL, Option.bind_some, if_pos rfl, hx]
      dsimp only
      rw [e32]
      rfl
  · have hg := Bool.eq_false_iff.mpr hg
    rw [hg] at hRL
    refine ⟨[], l, false, ?_, (fun q hq => by cases hq), fun j => ?_⟩
    · refine Ev.congr (f := fun k => spec_DocParts.j0 k l [] n true) (fun k => ?_) (Ev.step (fun k => ?_) (Ev.now _))
      · rw [spec_DocParts.f, hDN, Option.bind_some]
        dsimp only
        cases ok with
        | false => rw [if_neg (by decide)]
        | true => rw [if_pos rfl, decide_eq_true (show n < 0 by rw [Bool.true_and] at hg; have := of_decide_eq_false hg; omega)]
      · rw [spec_DocParts.j0, if_pos rfl]
    · refine Ev.congr (fun k => ?_) (Ev.now _)
      rw [idx.f, hRL, Option.bind_some]
      exact if_neg Bool.false_ne_true
theorem at_ev (l : List Int) (qs : List S27) (re : List Int) (ok : Bool) (h : Ev (fun k => spec_DocParts.f k l) (qs, re, ok)) (j : Nat) : Ev (fun k => spec_DocAt.f k l (j : Int)) (match qs[j]? with | some q => (q.f0, q.f1.f0, q.f1.f1, q.f2, 0) | none => if ok = true then ((⟨#[]⟩ : ByteArray), 0, ([] : List Int), ([] : List Int), 7) else ((⟨#[]⟩ : ByteArray), 0, ([] : List Int), ([] : List Int), 1)) := by
  refine Ev.bind h (Ev.congr (f := fun k => spec_DocAt.j0 k (j : Int) qs ok (decide ((j : Int) < (qs.length : Int)))) (fun k => if_pos (by omega)) ?_)
  by_cases hj : j < qs.length
  · rw [List.getElem?_eq_getElem hj, decide_eq_true (by omega)]
    have hrd : rd_T27 qs (j : Int) = qs[j] := by
      unfold rd_T27
      rw [Int.toNat_natCast, List.getD_eq_getElem?_getD, List.getElem?_eq_getElem hj]
      rfl
    exact Ev.step (fun k => by rw [spec_DocAt.j0, if_pos rfl, if_pos (by omega), if_pos (by omega), hrd]) (Ev.now _)
  · rw [List.getElem?_eq_none (by omega), decide_eq_false (by omega)]
    cases ok with
    | true => exact Ev.step (fun k => by rw [spec_DocAt.j0, if_neg (by decide), if_pos rfl]; rfl) (Ev.now _)
    | false => exact Ev.step (fun k => by rw [spec_DocAt.j0, if_neg (by decide), if_neg (by decide)]; rfl) (Ev.now _)
theorem own_ok (l : List Int) (hl : l.length ≤ 6000) : impl_own.f l = some l := by
  unfold impl_own.f
  rw [if_pos (by simp only [List.length_nil]; omega), List.nil_append]
theorem raw_ok (y : Int) (l : List Int) (hl : l.length ≤ 6000) : impl_raw.f y l = some (wrap64 y, l) := by
  unfold impl_raw.f
  rw [own_ok l hl, Option.bind_some]
theorem index_ev (l e : List Int) (at_ c : Int) (hu : IntKind.u64.wrap at_ = at_) (h : Ev (fun k => idx.f k l at_) (e, c)) (he : e.length ≤ 6000) : Ev (fun k => impl_Index.f k l at_) (e, c) := by
  refine Ev.congr (f := fun k => (idx.f k l at_).bind fun bt => ((impl_own.f bt.1).bind fun t => (some (t, bt.2)))) (fun k => by rw [impl_Index.f, hu]) (Ev.bind h (Ev.congr (fun k => ?_) (Ev.now _)))
  rw [own_ok e he, Option.bind_some]
theorem aindex_ev (l e : List Int) (at_ c : Int) (hu : IntKind.u64.wrap at_ = at_) (r : Int × List Int) (h : Ev (fun k => aix.f k l at_) (r.1, r.2, c)) (he : r.2.length ≤ 6000) : Ev (fun k => impl_ArrayIndex.f k l at_) (wrap64 r.1, r.2, c) := by
  refine Ev.congr (f := fun k => (aix.f k l at_).bind fun bt => ((impl_raw.f bt.1 bt.2.1).bind fun bt2 => (some (bt2.1, bt2.2, bt.2.2)))) (fun k => by rw [impl_ArrayIndex.f, hu]) (Ev.bind h (Ev.congr (fun k => ?_) (Ev.now _)))
  dsimp only
  rw [raw_ok _ _ he, Option.bind_some]
theorem aix_bad (l e : List Int) (at_ c : Int) (hc : c = 1 ∨ c = 7) (h : Ev (fun k => idx.f k l at_) (e, c)) : Ev (fun k => aix.f k l at_) (0, [], c) := by
  refine Ev.bind h (Ev.congr (fun k => ?_) (Ev.now _))
  rcases hc with rfl | rfl
  · dsimp only
    rw [if_neg (by decide), if_pos rfl]
  · dsimp only
    rw [if_neg (by decide), if_neg (by decide), if_pos rfl]
theorem main_ev (l : List Int) (hl : l.length ≤ 5000) (hw : ∀ x, x ∈ l → (Lit.int .u8 x).wf = true) (j : Nat) (hj : j < 9223372036854775808) : Ev (fun k => laws_FnDocAnyIndex.j0 k l (j : Int) false) true := by
  obtain ⟨qs, re, ok, f1, f2, f3⟩ := whole_ev l (by omega) hw
  have hA := at_ev l qs re ok f1 j
  have hI := f3 j
  have hu : IntKind.u64.wrap (j : Int) = (j : Int) := by
    simp only [IntKind.wrap, IntKind.bits, IntKind.signed]
    show (j : Int) % 18446744073709551616 = _
    omega
  have hcp := copy_ok l (by omega)
  unfold found at hI
  refine Ev.step (f := fun k => (spec_DocAt.f k l (j : Int)).bind _) (fun k => by rw [laws_FnDocAnyIndex.j0, if_neg (by decide)]) (Ev.bind hA ?_)
  clear hA
  cases hq : qs[j]? with
  | some q =>
    rw [hq] at hI
    dsimp only at hI ⊢
    obtain ⟨g1, g2, s, r, g3, g4, g5, g6⟩ := f2 q (List.mem_of_getElem? hq)
    have hX : Ev (fun k => aix.f k l (j : Int)) (r.1, r.2, 0) := Ev.bind hI (Ev.congr (f := fun k => (val.f k q.f2).bind fun v => some (v.1, v.2, 0)) (fun k => if_pos rfl) (Ev.bind g4 (Ev.now _)))
    have hI2 := index_ev l q.f2 j 0 hu hI g2
    have hX2 := aindex_ev l q.f2 j 0 hu r hX g5
    refine Ev.congr (f := fun k => (impl_Index.f k l (j : Int)).bind fun bt824 => ((impl_ArrayIndex.f k l (j : Int)).bind fun bt831 => ((spec_DocGood.f k q.f0 q.f1.f0 q.f1.f1 q.f2).bind fun t838 => (if t838 = true then (if bt824.2 = 0 then (if bt831.2.2 = 0 then (if (strOfNums bt824.1).toList = (strOfNums q.f2).toList then ((laws_docSameRaw.f bt831.1 bt831.2.1 q.f1.f0 q.f1.f1).bind fun t839 => (some t839)) else (none)) else (none)) else (none)) else (if bt824.2 = 0 then (some ((strOfNums bt824.1).toList == (strOfNums q.f2).toList)) else (none)))))) (fun k => ?_) (Ev.bind hI2 (Ev.bind hX2 (Ev.bind g3 ?_)))
    · rw [hcp, Option.bind_some]
      rfl
    · dsimp only
      cases s with
      | true =>
        have hr := g6 rfl
        subst hr
        refine Ev.congr (fun k => ?_) (Ev.now _)
        rw [if_pos rfl, if_pos rfl, if_pos rfl, if_pos rfl, laws_docSameRaw.f, if_pos g1, Option.bind_some]
        simp
      | false =>
        refine Ev.congr (fun k => ?_) (Ev.now _)
        rw [if_neg (by decide), if_pos rfl]
        simp
  | none =>
    rw [hq] at hI
    dsimp only at hI ⊢
    obtain ⟨c, hc, hI, hA⟩ : ∃ c : Int, (c = 1 ∨ c = 7) ∧ Ev (fun k => idx.f k l (j : Int)) ([], c) ∧ (if ok = true then ((⟨#[]⟩ : ByteArray), (0 : Int), ([] : List Int), ([] : List Int), (7 : Int)) else ((⟨#[]⟩ : ByteArray), 0, ([] : List Int), ([] : List Int), 1)) = ((⟨#[]⟩ : ByteArray), (0 : Int), ([] : List Int), ([] : List Int), c) := by
      cases ok with
      | true => exact ⟨7, Or.inr rfl, hI, rfl⟩
      | false => exact ⟨1, Or.inl rfl, hI, rfl⟩
    rw [hA]
    have hX := aix_bad l [] j c hc hI
    have hI2 := index_ev l [] j c hu hI (by decide)
    have hX2 := aindex_ev l [] j c hu (0, []) hX (by decide)
    have hc0 : c ≠ 0 := by rcases hc with rfl | rfl <;> decide
    refine Ev.congr (f := fun k => (impl_Index.f k l (j : Int)).bind fun bt824 => ((impl_ArrayIndex.f k l (j : Int)).bind fun bt831 => ((laws_docAwake.f k).bind fun t837 => (if t837 = true then (if bt824.2 = c then (some (bt831.2.2 == c)) else (none)) else (none))))) (fun k => ?_) (Ev.bind hI2 (Ev.bind hX2 (Ev.bind awake ?_)))
    · rw [hcp, Option.bind_some]
      simp only [Option.bind_some, if_neg hc0]
    · refine Ev.congr (fun k => ?_) (Ev.now _)
      dsimp only
      rw [if_pos rfl, if_pos rfl]
      simp
theorem holds (l : List Int) (hw : ∀ x, x ∈ l → (Lit.int .u8 x).wf = true) (a : Int) (ha : (Lit.int .i64 a).wf = true) : ∃ q, laws_FnDocAnyIndex.f q l a = some true := by
  have hmin : IntKind.i64.min = -9223372036854775808 := by decide +kernel
  have hmax : IntKind.i64.max = 9223372036854775807 := by decide +kernel
  have hb : -9223372036854775808 ≤ a ∧ a ≤ 9223372036854775807 := by simpa [Lit.wf, hmin, hmax] using ha
  refine Ev.rounds ?_
  by_cases h0 : (l.length : Int) > 2147483647
  · exact Ev.congr (fun k => by rw [laws_FnDocAnyIndex.f, if_pos h0]) (Ev.now _)
  have tt : Ev (fun k => laws_FnDocAnyIndex.j0 k l a true) true := Ev.step (fun k => by rw [laws_FnDocAnyIndex.j0, if_pos rfl]) (Ev.now _)
  by_cases h5 : (l.length : Int) ≤ 5000
  · have e : ∀ k, laws_FnDocAnyIndex.f k l a = laws_FnDocAnyIndex.j0 k l a (decide (a < 0)) := fun k => by rw [laws_FnDocAnyIndex.f, if_neg h0, laws_docModest.f, Option.bind_some, decide_eq_true h5, if_pos rfl]
    by_cases hn : a < 0
    · rw [decide_eq_true hn] at e
      exact Ev.congr e tt
    · rw [decide_eq_false hn] at e
      obtain ⟨j, rfl⟩ := Int.eq_ofNat_of_zero_le (show 0 ≤ a by omega)
      exact Ev.congr e (main_ev l (by omega) hw j (by omega))
  · exact Ev.congr (fun k => by rw [laws_FnDocAnyIndex.f, if_neg h0, laws_docModest.f, Option.bind_some, decide_eq_false h5, if_neg (by decide)]) tt

end Go.Proofs.YtbfhpjkahobgnaaGreatDoor.PIx.VT
