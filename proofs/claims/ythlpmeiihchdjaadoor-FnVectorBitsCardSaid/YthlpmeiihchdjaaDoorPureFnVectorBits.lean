/- FnVectorBits: a vector of bits is told as its kind, its padding and its bytes, and read as it was. Conditions: none beyond the statement's. -/
import Derived.Test.YthlpmeiihchdjaaDoorPVx3
import Derived.Test.YthlpmeiihchdjaaDoorPL
namespace Go.Proofs.YthlpmeiihchdjaaDoor.Pure
open Go.RowKit Go.Proofs.YthlpmeiihchdjaaDoor.PV Go.Proofs.YthlpmeiihchdjaaDoorW.PrintWords Go.Proofs.YthlpmeiihchdjaaDoorW.PrintLast

theorem vbytes (l : List Int) (p : Int) (h0 : 0 ≤ p) (h7 : p ≤ 7) (hl : l.length ≤ 500) (k : Nat) : spec_VectorBytes.f k 16 [] [] l p = some (16 :: p :: l) := by
  unfold spec_VectorBytes.f
  have e : p % 256 = p := by omega
  simp only [Option.bind_some]
  rw [if_neg (by decide), if_neg (by decide)]
  simp only [if_true]
  rw [if_pos (by simp; omega), e]
  rfl
theorem same (l m : List Int) (h : l = m) : laws_vecBytes.f l m = some true := by
  subst h
  unfold laws_vecBytes.f
  simp
theorem FnVectorBits : laws_FnVectorBits.Pure := by
  intro l a hm hs hw ha
  have ha0 : 0 ≤ a ∧ a < 256 := by
    have := PL.wf_u8 ha
    omega
  refine ⟨2, ?_⟩
  unfold laws_FnVectorBits.f
  by_cases h1 : (l.length : Int) > 2147483647
  · rw [if_pos h1]
  rw [if_neg h1]
  by_cases h2 : (l.length : Int) > 500
  · rw [if_pos h2]
  rw [if_neg h2]
  have hl : l.length ≤ 500 := by omega
  have hwr : wrap64 a = a := by unfold wrap64; omega
  rw [hwr]
  have hone : impl_VectorBits.f [248] 3 = some (9, [16, 3, 248], true) := by
    unfold impl_VectorBits.f
    rw [if_pos (by decide), if_neg (by simp)]
  by_cases hb : 7 < a ∨ 0 < a ∧ l.length = 0
  · have hf : impl_VectorBits.f l a = some (0, [], false) := by
      unfold impl_VectorBits.f
      rw [if_pos (by omega), if_pos hb]
    have hj : laws_FnVectorBits.j0 2 0 [] false true 16 l a = some true := by
      rw [laws_FnVectorBits.j0.eq_2, if_pos rfl, hone]
      rfl
    rw [hf]
    simp only [Option.bind_some]
    by_cases h7 : a > 7
    · rw [if_pos h7]; exact hj
    · rw [if_neg h7, if_pos (by omega)]
      have : ((l.length : Int) == 0) = true := by
        have : l.length = 0 := by omega
        simp [this]
      rw [this]; exact hj
  · have hf : impl_VectorBits.f l a = some (9, 16 :: a :: l, true) := by
      unfold impl_VectorBits.f
      rw [if_pos (by omega), if_neg hb]
    have hof : impl_VectorOf.f 9 (16 :: a :: l) = some (16, [], [], l, a, true) := by
      unfold impl_VectorOf.f
      rw [if_pos ⟨rfl, rfl, by show 0 ≤ a; omega, by show a ≤ 7; omega, by show l.length ≤ 1000000; omega, by show ¬ (0 < a ∧ l.length = 0); omega⟩]
      rfl
    have hj : laws_FnVectorBits.j0 2 9 (16 :: a :: l) true false 16 l a = some true := by
      rw [laws_FnVectorBits.j0.eq_2, if_neg (by decide), hof]
      simp only [Option.bind_some]
      simp only [if_true]
      rw [vbytes l a (by omega) (by omega) hl]
      simp only [Option.bind_some]
      rw [same _ _ rfl]
      simp only [Option.bind_some]
      simp only [if_true]
      unfold laws_vecSame.f
      simp only [if_true]
      rw [vbytes l a (by omega) (by omega) hl]
      simp only [Option.bind_some]
      rw [same _ _ rfl]
      rfl
    rw [hf]
    simp only [Option.bind_some]
    rw [if_neg (by omega)]
    by_cases h0 : a > 0
    · rw [if_pos h0]
      have : ((l.length : Int) == 0) = false := by
        have : l.length ≠ 0 := by omega
        simp [this]
      rw [this]; exact hj
    · rw [if_neg h0]; exact hj

end Go.Proofs.YthlpmeiihchdjaaDoor.Pure
