/- FnDocEndBad: a document, or an array, cannot end where there are not four bytes for its length: then nothing changes. Conditions: none; longer inputs and other indexes are let by, as the statement says. -/
import Derived.Test.YthlpmeiihchdjaaPDEx1
import Derived.Test.YthlpmeiihchdjaaPL
namespace Go.Proofs.Ythlpmeiihchdjaa.Pure
open Go.RowKit Go.Proofs.Ythlpmeiihchdjaa.PDE Go.Proofs.YthlpmeiihchdjaaW.PrintWords Go.Proofs.YthlpmeiihchdjaaW.PrintLast
open PL

theorem FnDocEndBad : laws_FnDocEndBad.Pure := by
  intro l0 a1 _ hl _ _
  have u0 : ∀ k, laws_FnDocEndBad.j0 (k + 1) l0 a1 true = some true := by intro k; simp [laws_FnDocEndBad.j0]
  refine ⟨1, ?_⟩
  unfold laws_FnDocEndBad.f
  by_cases c1 : (l0.length : Int) > 2147483647
  · rw [if_pos c1]
  rw [if_neg c1]
  by_cases c2 : (l0.length : Int) > 1000
  · rw [if_pos c2]; exact u0 _
  rw [if_neg c2]
  by_cases c3 : a1 < 0
  · rw [if_pos c3]; exact u0 _
  rw [if_neg c3]
  by_cases c4 : a1 > 2000
  · rw [if_pos c4]; exact u0 _
  rw [if_neg c4, wrap_id (by omega) (by omega)]
  by_cases c5 : (l0.length : Int) ≥ a1 + 4
  · rw [decide_eq_true c5]; exact u0 _
  rw [decide_eq_false c5]
  have ec : laws_docCopy.f l0 = some l0 := by
    unfold laws_docCopy.f
    simp only [Option.bind_some]
    rw [if_pos (by simp; omega)]
    rfl
  have e1 : impl_DocumentEnd.f l0 a1 = some (l0, false) := by
    unfold impl_DocumentEnd.f
    rw [if_pos (by omega), if_pos (by omega)]
  have e2 : impl_ArrayEnd.f l0 a1 = some (l0, false) := by
    unfold impl_ArrayEnd.f
    rw [if_pos (by omega), if_pos (by omega)]
  have e3 : impl_DocumentEnd.f ([0, 0, 0, 0] : List Int) 0 = some ([5, 0, 0, 0, 0], true) := by decide +kernel
  simp only [laws_FnDocEndBad.j0]
  rw [if_neg (by simp), ec, Option.bind_some, e1, Option.bind_some, Option.bind_some, e2, Option.bind_some, e3]
  simp
end Go.Proofs.Ythlpmeiihchdjaa.Pure
