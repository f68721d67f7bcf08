/- Plain laws on the told functions of this seat, without memory. Conditions: as each theorem states them. -/
import Derived.Test.YtanecebppagakaaGreatDoorProg
import Derived.Test.YtanecebppagakaaGreatDoorHW
import Derived.Below
import Derived.Deep.Draws
import Derived.OwnWalk
import Derived.Tactics
import Derived.WalkKit
import Derived.KernelRfl
import Derived.RowKit3
import Derived.Deep.LoopGhost
import Derived.Deep.QuietTactic
import Derived.BigQuiet
import Derived.WideLaws
import Derived.Deep.DeepCutAuto
import Derived.Deep.CutBlock
import Derived.Laws.Rows
import Derived.Outline
import Derived.StillTailTactics
import Derived.Deep.RegionHeld3
import Derived.Test.YtanecebppagakaaGreatDoorRSh
namespace Go.Proofs.YtanecebppagakaaGreatDoor.PRx.VT
open Go.RowKit Go.Proofs.YtanecebppagakaaGreatDoorW.PrintWords Go.Proofs.YtanecebppagakaaGreatDoorW.PrintLast Go.Proofs.YtanecebppagakaaGreatDoorW.PrintMore
set_option linter.unusedVariables false
set_option linter.unusedSimpArgs false
theorem Ev.uniq_ {α : Type} {g : Nat → Option α} {r s : α} (h : Ev g r) (k : Ev g s) : r = s := by
  obtain ⟨K, h⟩ := h
  obtain ⟨K', k⟩ := k
  have a := h (max K K') (by omega)
  have b := k (max K K') (by omega)
  exact Option.some.inj (a.symm.trans b)
theorem kids_form : ∀ (r : List S95) (n b : Nat), SzL r n b → n ≤ 1000 → b ≤ 65536 → (∀ e, e ∈ r → FitV e.f1) → ∀ (K pre : List S95) (acc : List Int), K = pre ++ r → K.length ≤ M → acc.length + b + 24 * n ≤ 100000 →
    ∃ body, Ev (fun k => spec_DocBytes.l0 k K acc (pre.length : Int)) (le4 ((body.length + 5 : Nat) : Int) ++ (body ++ [0])) ∧ body.length ≤ acc.length + b + 24 * n := by
  intro r
  induction r with
  | nil =>
    intro n b hs hn hb hk K pre acc he hM ha
    refine ⟨acc, ⟨1, fun k hk => ?_⟩, by omega⟩
    obtain ⟨k, rfl⟩ : ∃ q, k = q + 1 := ⟨k - 1, by omega⟩
    show spec_DocBytes.l0 (k + 1) _ _ _ = _
    rw [spec_DocBytes.l0, if_neg (by rw [he]; simp)]
    exact doc_form acc (by omega)
  | cons e r ihr =>
    intro n b hs hn hb hk K pre acc he hM ha
    cases hs with
    | cons _ _ n1 b1 n' b' h1 hr =>
    have hM' : K.length ≤ 140737488351232 := hM
    have hlen : K.length = pre.length + (r.length + 1) := by rw [he]; simp
    have he' : rd_T95 K (pre.length : Int) = e := by rw [he]; exact rd_at pre r e
    obtain ⟨lv, ev1, hl1⟩ := value h1 (hk e (by simp)) (by omega) (by omega)
    obtain ⟨hd, hhd, hhl⟩ := head_some e.f1.f0 e.f0 (by omega)
    obtain ⟨l, ev2, hl2⟩ := ihr n' b' hr (by omega) (by omega) (fun x hx => hk x (by simp [hx])) K (pre ++ [e]) (acc ++ (hd ++ lv)) (by rw [he]; simp) hM (by simp only [List.length_append]; omega)
    refine ⟨l, ?_, by simp only [List.length_append] at hl2; omega⟩
    have hsum : hd.length + lv.length < 140737488355328 := by omega
    have evE : Ev (fun k => spec_DocElem.f k e.f0 e.f1.f0 e.f1.f1 e.f1.f2 e.f1.f3 e.f1.f4 e.f1.f5 e.f1.f6 e.f1.f7) (hd ++ lv) := by
      refine Ev.step (f := fun k => (spec_DocValue.f k e.f1.f0 e.f1.f1 e.f1.f2 e.f1.f3 e.f1.f4 e.f1.f5 e.f1.f6 e.f1.f7).bind fun t300 => (if hd.length + t300.length < 140737488355328 then (some (hd ++ t300)) else (none))) (fun k => by rw [spec_DocElem.f, hhd]; rfl) ?_
      refine Ev.bind ev1 ?_
      exact Ev.congr (fun k => by rw [if_pos hsum]) (Ev.now _)
    refine Ev.step (f := fun k => (spec_DocElem.f k e.f0 e.f1.f0 e.f1.f1 e.f1.f2 e.f1.f3 e.f1.f4 e.f1.f5 e.f1.f6 e.f1.f7).bind fun t => (if acc.length + t.length < 140737488355328 then (spec_DocBytes.l0 k K (acc ++ t) (wrap64 ((pre.length : Int) + 1))) else (none))) (fun k => ?_) ?_
    · rw [spec_DocBytes.l0, if_pos (by omega), if_pos (by omega), he']
    · refine Ev.bind evE ?_
      have e2 : wrap64 ((pre.length : Int) + 1) = (((pre ++ [e]).length : Nat) : Int) := by rw [w64 (by omega) (by omega)]; simp
      exact Ev.congr (fun k => by rw [if_pos (by simp only [List.length_append]; omega), e2]) ev2
/-- What docFine asks. -/
theorem fine_ev (v : S44) (hv : FitV v) : Ev (fun k => laws_docFine.f k v.f0 v.f1 v.f2 v.f3 v.f4 v.f5 v.f6 v.f7) false ∨ ∃ n b, SzV v n b ∧ n ≤ 300 ∧ b ≤ 5000 ∧ docR 200 v.f0 v.f1 v.f2 v.f3 v.f4 v.f5 v.f6 v.f7 = some true ∧ Ev (fun k => laws_docFine.f k v.f0 v.f1 v.f2 v.f3 v.f4 v.f5 v.f6 v.f7) true := by
  obtain ⟨c, h1, h2, ev, hsz⟩ := count 300 (by decide) v hv
  have ev' : Ev (fun k => laws_docCount.f k v.f0 v.f1 v.f2 v.f3 v.f4 v.f5 v.f6 v.f7 300) (c : Int) := ev
  by_cases hc : (c : Int) ≤ 300
  · obtain ⟨b, hb⟩ := hsz (by omega)
    obtain ⟨q, hq⟩ := right_some 200 v hv
    have hdr : spec_DocRight.f v.f0 v.f1 v.f2 v.f3 v.f4 v.f5 v.f6 v.f7 = some q := by
      unfold spec_DocRight.f spec_docRight.f
      rw [if_pos (by decide), show (200 : Int).toNat = 200 from rfl, hq]; rfl
    cases q with
    | false =>
      left
      refine Ev.bind ev' ⟨0, fun k _ => ?_⟩
      show (if (c : Int) ≤ 300 then _ else _) = _
      rw [if_pos hc, hdr]; rfl
    | true =>
      have evb := bytes hb hv (by omega)
      by_cases hbb : b ≤ 5000
      · right
        refine ⟨c, b, hb, by omega, hbb, hq, Ev.bind ev' (Ev.congr (f := fun k => (laws_docBytes.f k v.f0 v.f1 v.f2 v.f3 v.f4 v.f5 v.f6 v.f7).bind fun t => some (decide (t ≤ 5000))) (fun k => by rw [if_pos hc, hdr]; rfl) (Ev.bind evb ⟨0, fun k _ => ?_⟩))⟩
        show some (decide ((b : Int) ≤ 5000)) = _
        rw [decide_eq_true (by omega)]
      · left
        refine Ev.bind ev' (Ev.congr (f := fun k => (laws_docBytes.f k v.f0 v.f1 v.f2 v.f3 v.f4 v.f5 v.f6 v.f7).bind fun t => some (decide (t ≤ 5000))) (fun k => by rw [if_pos hc, hdr]; rfl) (Ev.bind evb ⟨0, fun k _ => ?_⟩))
        show some (decide ((b : Int) ≤ 5000)) = _
        rw [decide_eq_false (by omega)]
  · left
    refine Ev.bind ev' ⟨0, fun k _ => ?_⟩
    show (if (c : Int) ≤ 300 then _ else _) = _
    rw [if_neg hc]

end Go.Proofs.YtanecebppagakaaGreatDoor.PRx.VT
