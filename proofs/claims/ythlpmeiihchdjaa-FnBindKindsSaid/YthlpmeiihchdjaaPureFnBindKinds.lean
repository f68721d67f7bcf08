/- FnBindKinds: a byte is a kind exactly if the BSON specification has it. Conditions: none; every byte. -/
import Derived.Test.YthlpmeiihchdjaaPFnBindKindsx1
namespace Go.Proofs.Ythlpmeiihchdjaa.Pure
open Go.RowKit Go.Proofs.Ythlpmeiihchdjaa.PFnBindKinds Go.Proofs.YthlpmeiihchdjaaW.PrintWords Go.Proofs.YthlpmeiihchdjaaW.PrintLast

theorem kinds_all : ∀ n : Fin 256, laws_FnBindKinds.f ((n.val : Nat) : Int) = some true := by decide +kernel

theorem FnBindKinds : laws_FnBindKinds.Pure := by
  intro a0 h
  have hb : 0 ≤ a0 ∧ a0 ≤ 255 := by
    have h1 : IntKind.u8.min = 0 := by decide +kernel
    have h2 : IntKind.u8.max = 255 := by decide +kernel
    simp [Lit.wf, h1, h2] at h
    exact h
  have h2 := kinds_all ⟨a0.toNat, by omega⟩
  rw [show (((⟨a0.toNat, by omega⟩ : Fin 256).val : Nat) : Int) = a0 from by simp; omega] at h2
  exact h2

end Go.Proofs.Ythlpmeiihchdjaa.Pure
