/- FnExtWrappers: the names of extended JSON stand for their kinds, all others for a document. Conditions: none; texts of more than 300 bytes are let by, as the statement says. -/
import Derived.Test.YthlpmeiihchdjaaPFnExtWrappersx1
namespace Go.Proofs.Ythlpmeiihchdjaa.Pure
open Go.RowKit Go.Proofs.Ythlpmeiihchdjaa.PFnExtWrappers Go.Proofs.YthlpmeiihchdjaaW.PrintWords Go.Proofs.YthlpmeiihchdjaaW.PrintLast

theorem same (s : ByteArray) : ∃ n : Int, impl_ExtWrapper.f s = some n ∧ spec_ExtWrapperOf.f s = some n := by
  unfold impl_ExtWrapper.f bson_ZzWrapper.f bson_wrapperKeyBSONType.f spec_ExtWrapperOf.f
  generalize s.toList = l
  by_cases h : l = [36, 110, 117, 109, 98, 101, 114, 73, 110, 116]
  · subst h; exact ⟨16, by decide +kernel, by decide +kernel⟩
  simp only [if_neg h]; clear h
  by_cases h : l = [36, 110, 117, 109, 98, 101, 114, 76, 111, 110, 103]
  · subst h; exact ⟨18, by decide +kernel, by decide +kernel⟩
  simp only [if_neg h]; clear h
  by_cases h : l = [36, 111, 105, 100]
  · subst h; exact ⟨7, by decide +kernel, by decide +kernel⟩
  simp only [if_neg h]; clear h
  by_cases h : l = [36, 115, 121, 109, 98, 111, 108]
  · subst h; exact ⟨14, by decide +kernel, by decide +kernel⟩
  simp only [if_neg h]; clear h
  by_cases h : l = [36, 110, 117, 109, 98, 101, 114, 68, 111, 117, 98, 108, 101]
  · subst h; exact ⟨1, by decide +kernel, by decide +kernel⟩
  simp only [if_neg h]; clear h
  by_cases h : l = [36, 110, 117, 109, 98, 101, 114, 68, 101, 99, 105, 109, 97, 108]
  · subst h; exact ⟨19, by decide +kernel, by decide +kernel⟩
  simp only [if_neg h]; clear h
  by_cases h : l = [36, 98, 105, 110, 97, 114, 121]
  · subst h; exact ⟨5, by decide +kernel, by decide +kernel⟩
  simp only [if_neg h]; clear h
  by_cases h : l = [36, 99, 111, 100, 101]
  · subst h; exact ⟨13, by decide +kernel, by decide +kernel⟩
  simp only [if_neg h]; clear h
  by_cases h : l = [36, 115, 99, 111, 112, 101]
  · subst h; exact ⟨15, by decide +kernel, by decide +kernel⟩
  simp only [if_neg h]; clear h
  by_cases h : l = [36, 116, 105, 109, 101, 115, 116, 97, 109, 112]
  · subst h; exact ⟨17, by decide +kernel, by decide +kernel⟩
  simp only [if_neg h]; clear h
  by_cases h : l = [36, 114, 101, 103, 117, 108, 97, 114, 69, 120, 112, 114, 101, 115, 115, 105, 111, 110]
  · subst h; exact ⟨11, by decide +kernel, by decide +kernel⟩
  simp only [if_neg h]; clear h
  by_cases h : l = [36, 100, 98, 80, 111, 105, 110, 116, 101, 114]
  · subst h; exact ⟨12, by decide +kernel, by decide +kernel⟩
  simp only [if_neg h]; clear h
  by_cases h : l = [36, 100, 97, 116, 101]
  · subst h; exact ⟨9, by decide +kernel, by decide +kernel⟩
  simp only [if_neg h]; clear h
  by_cases h : l = [36, 109, 105, 110, 75, 101, 121]
  · subst h; exact ⟨255, by decide +kernel, by decide +kernel⟩
  simp only [if_neg h]; clear h
  by_cases h : l = [36, 109, 97, 120, 75, 101, 121]
  · subst h; exact ⟨127, by decide +kernel, by decide +kernel⟩
  simp only [if_neg h]; clear h
  by_cases h : l = [36, 117, 110, 100, 101, 102, 105, 110, 101, 100]
  · subst h; exact ⟨6, by decide +kernel, by decide +kernel⟩
  simp only [if_neg h]; clear h
  exact ⟨3, by decide +kernel, rfl⟩

theorem oid : impl_ExtWrapper.f (⟨#[36, 111, 105, 100]⟩ : ByteArray) = some 7 := by decide +kernel

theorem FnExtWrappers : laws_FnExtWrappers.Pure := by
  intro s _
  unfold laws_FnExtWrappers.f
  by_cases h1 : (s.size : Int) > 2147483647
  · rw [if_pos h1]
  · rw [if_neg h1]
    by_cases h2 : (s.size : Int) > 300
    · rw [if_pos h2]
    · rw [if_neg h2]
      obtain ⟨n, ha, hb⟩ := same s
      rw [ha, hb, oid]
      simp

end Go.Proofs.Ythlpmeiihchdjaa.Pure
