/- Plain laws on the told functions of this seat, without memory. Conditions: as each theorem states them. -/
import Derived.Test.YtpbfigeaoefcmaaDoorProg
import Derived.Test.YtpbfigeaoefcmaaDoorHW
import Derived.Below
import Derived.Deep.Draws
import Derived.OwnWalk
import Derived.Tactics
import Derived.WalkKit
import Derived.KernelRfl
import Derived.RowKit3
import Derived.Deep.LoopGhost
import Derived.Deep.QuietTactic
import Derived.BigQuiet
import Derived.WideLaws
import Derived.Deep.DeepCutAuto
import Derived.Deep.CutBlock
import Derived.Laws.Rows
import Derived.Outline
import Derived.StillTailTactics
import Derived.Deep.RegionHeld3
import Derived.Lib.AppendIntMem
import Derived.Test.YtpbfigeaoefcmaaDoorShelf
import Derived.Test.YtpbfigeaoefcmaaDoorHW
namespace Go.Proofs.YtpbfigeaoefcmaaDoor.Ito
open Go.RowKit Go.Proofs.YtpbfigeaoefcmaaDoorW.PrintWords Go.Proofs.YtpbfigeaoefcmaaDoorW.PrintLast Go.Proofs.YtpbfigeaoefcmaaDoorW.PrintMore
set_option linter.unusedVariables false
set_option linter.unusedSimpArgs false
/-- What the table of powers of ten holds. -/
def LaidT (w : World) : Prop := Lib.TabIs Tryd.prog w "internal/strconv.uint64pow10" .u64 Lib.pow10Tab
theorem gT : Tryd.prog.globalNamed "internal/strconv.uint64pow10" = some 0 := by kernel_rfl
theorem LaidT.of_block {w w' : World} (h : LaidT w) (hb : w'.heap[0]? = w.heap[0]?) : LaidT w' := by
  unfold LaidT Lib.TabIs World.var? at h ⊢
  simp only [gT] at h ⊢
  rw [← h]
  simp [hb]
theorem LaidT.lt {w : World} (h : LaidT w) : 0 < w.heap.size := by
  have := h.cell gT 0 (by decide)
  exact World.block_lt_of_cell? w ⟨0, 0, none⟩ this
theorem LaidT.below {w w' : World} (h : LaidT w) {n : Nat} (hn : 0 < n) (hb : Below n w w') : LaidT w' := h.of_block (hb.block 0 hn)
section
variable {w w0 W : World} {S S2 : Nat → Prop}
theorem laid_kept_call (h : ∀ W', Kept w W' S → LaidT W') (hk : Kept w W S) (hs : ∀ k, S2 k → S k ∨ w.heap.size ≤ k) : ∀ W', Kept W W' S2 → LaidT W' := fun W' hk' => h W' (hk.then_ hk' hs)
theorem laid_kept_came (h : LaidT w0) (hb : Below w0.heap.size w0 W) (hS : ∀ k, S k → w0.heap.size ≤ k) : ∀ W', Kept W W' S → LaidT W' := fun W' hk => by
  have h1 := h.below h.lt hb
  exact h1.of_block (hk.2 0 h1.lt (fun hs => by have := hS 0 hs; have := h.lt; omega))
end
/-- A block that holds nothing any more. -/
theorem emptied_ (W : World) (b : Nat) : ∃ W' : World, W'.heap.size = W.heap.size ∧ (∀ k, k ≠ b → W'.heap[k]? = W.heap[k]?) ∧ ∀ a : Addr, a.block = b → W'.cell? a = none := by
  refine ⟨{ W with heap := W.heap.modify b (fun _ => .cells #[] 0 (0, 0)) }, by simp, fun k hk => ?_, fun a ha => ?_⟩
  · simp [Array.getElem?_modify, Ne.symm hk]
  · subst ha
    simp only [World.cell?, Array.getElem?_modify]
    cases h : W.heap[a.block]? with
    | none => simp
    | some o => simp
theorem kept_get {α : Type} {d : Kd α} {A : Option Addr} {n : Nat} {xs : List α} {w W : World} {S : Nat → Prop} (h : ∀ W_, Kept w W_ S → d.C W_ A n xs) (hk : Kept w W S) (z : α) (i : Int) (h0 : 0 ≤ i) (h1 : i < n) (hs : 0 < d.sz) :
    ∃ ad c, A = some ad ∧ c.length = d.sz ∧ (∀ j u, c[j]? = some u → W.cell? (ad.add (i.toNat * d.sz + j)) = some u) ∧ ∀ W', Kept w W' S → d.K W' (xs.getD i.toNat z) c := by
  obtain ⟨ad, c, rfl, hcl, hK, hcc⟩ := Kd.C_get (h W hk) z i h0 h1
  have c0 := hcc 0 _ (List.getElem?_eq_getElem (by omega))
  have hlt := World.block_lt_of_cell? W _ c0
  rw [add_block] at hlt
  have hin : ¬ (S ad.block ∨ w.heap.size ≤ ad.block) := by
    intro hor
    obtain ⟨W', e1, e2, e3⟩ := emptied_ W ad.block
    have hk' : Kept w W' S := ⟨by rw [e1]; exact hk.1, fun k hlt' hn => by
      have hne : k ≠ ad.block := by
        rintro rfl
        rcases hor with hor | hor
        · exact hn hor
        · omega
      rw [e2 k hne]
      exact hk.2 k hlt' hn⟩
    obtain ⟨ad', c', he, hcl', _, hcc'⟩ := Kd.C_get (h W' hk') z i h0 h1
    injection he with he
    subst he
    have h4 := hcc' 0 _ (List.getElem?_eq_getElem (by omega))
    rw [e3 _ (add_block _ _)] at h4
    cases h4
  refine ⟨ad, c, rfl, hcl, hcc, fun W' hW => ?_⟩
  obtain ⟨ad', c', he, hcl', hK', hcc'⟩ := Kd.C_get (h W' hW) z i h0 h1
  injection he with he
  subst he
  have hb : W'.heap[ad.block]? = W.heap[ad.block]? := by
    have hb1 : ad.block < w.heap.size := by
      rcases Nat.lt_or_ge ad.block w.heap.size with h5 | h5
      · exact h5
      · exact absurd (.inr h5) hin
    rw [hW.2 _ hb1 (fun h5 => hin (.inl h5)), hk.2 _ hb1 (fun h5 => hin (.inl h5))]
  have hc : c = c' := by
    apply List.ext_getElem?
    intro j
    by_cases hj : j < d.sz
    · have h5 := hcc j _ (List.getElem?_eq_getElem (by omega))
      have h6 := hcc' j _ (List.getElem?_eq_getElem (by omega))
      have h7 : W'.cell? (ad.add (i.toNat * d.sz + j)) = W.cell? (ad.add (i.toNat * d.sz + j)) := by simp [World.cell?, add_block, hb]
      rw [h7, h5] at h6
      rw [List.getElem?_eq_getElem (by omega), List.getElem?_eq_getElem (by omega)]
      exact h6
    · rw [List.getElem?_eq_none (by omega), List.getElem?_eq_none (by omega)]
  rw [hc]
  exact hK'

end Go.Proofs.YtpbfigeaoefcmaaDoor.Ito
