/- The law FnBindFloat64 in plain Lean: what its walk computes is true. Conditions: numbers and lengths as memory has them. -/
import Derived.Test.YthlpmeiihchdjaaProg
import Derived.Test.YthlpmeiihchdjaaHW
import Derived.Below
import Derived.Deep.Draws
import Derived.OwnWalk
import Derived.Tactics
import Derived.WalkKit
import Derived.KernelRfl
import Derived.RowKit3
import Derived.Deep.LoopGhost
import Derived.Deep.QuietTactic
import Derived.BigQuiet
import Derived.WideLaws
import Derived.Deep.DeepCutAuto
import Derived.Deep.CutBlock
import Derived.Laws.Rows
import Derived.Outline
import Derived.StillTailTactics
import Derived.Deep.RegionHeld3
import Derived.Test.YthlpmeiihchdjaaPFlux9
import Derived.Test.YthlpmeiihchdjaaVT
namespace Go.Proofs.Ythlpmeiihchdjaa.PFlu.VT
open Go.RowKit Go.Proofs.YthlpmeiihchdjaaW.PrintWords Go.Proofs.YthlpmeiihchdjaaW.PrintLast Go.Proofs.YthlpmeiihchdjaaW.PrintMore
set_option linter.unusedVariables false
set_option linter.unusedSimpArgs false
theorem dv_1 (v : S37) (c1 : v.f0 = 1) : Ev (fun k => spec_DocValue.f k v.f0 v.f1 v.f2 v.f3 v.f4 v.f5 v.f6 v.f7) (le8 v.f4) := by
  obtain ⟨K1, hK1⟩ := int64_from [] v.f4 (by simp)
  refine ⟨K1 + 5, fun k hk => ?_⟩
  obtain ⟨q, rfl⟩ : ∃ q, k = q + 5 := ⟨k - 5, by omega⟩
  show spec_DocValue.f (q + 5) _ _ _ _ _ _ _ _ = _
  rw [spec_DocValue.f, if_pos c1, c1, spec_DocValue.j0, if_pos (by decide), hK1 _ (by omega)]; rfl
theorem dv_18 (v : S37) (c18 : v.f0 = 18) : Ev (fun k => spec_DocValue.f k v.f0 v.f1 v.f2 v.f3 v.f4 v.f5 v.f6 v.f7) (le8 v.f3) := by
  obtain ⟨K2, hK2⟩ := int64_from [] (IntKind.u64.wrap v.f3) (by simp)
  have e : [] ++ le8 (IntKind.u64.wrap v.f3) = le8 v.f3 := by rw [u64_wrap, List.nil_append, le8_wrap]
  rw [e] at hK2
  refine ⟨K2 + 5, fun k hk => ?_⟩
  obtain ⟨q, rfl⟩ : ∃ q, k = q + 5 := ⟨k - 5, by omega⟩
  show spec_DocValue.f (q + 5) _ _ _ _ _ _ _ _ = _
  rw [spec_DocValue.f, if_neg (by rw [c18]; decide), c18, spec_DocValue.j0, if_neg (by decide), if_neg (by decide), if_neg (by decide), spec_DocValue.j1, if_neg (by decide), if_neg (by decide), spec_DocValue.j2, if_neg (by decide), if_neg (by decide), if_neg (by decide), if_neg (by decide), if_neg (by decide), spec_DocValue.j3, if_pos (by decide), hK2 _ (by omega)]; rfl
theorem dv_16 (v : S37) (c16 : v.f0 = 16) : Ev (fun k => spec_DocValue.f k v.f0 v.f1 v.f2 v.f3 v.f4 v.f5 v.f6 v.f7) (le4 v.f3) := by
  refine ⟨5, fun k hk => ?_⟩
  obtain ⟨q, rfl⟩ : ∃ q, k = q + 5 := ⟨k - 5, by omega⟩
  show spec_DocValue.f (q + 5) _ _ _ _ _ _ _ _ = _
  rw [spec_DocValue.f, if_neg (by rw [c16]; decide), c16, spec_DocValue.j0, if_neg (by decide), if_neg (by decide), if_neg (by decide), spec_DocValue.j1, if_neg (by decide), if_neg (by decide), spec_DocValue.j2, if_neg (by decide), if_neg (by decide), if_neg (by decide), if_neg (by decide), if_neg (by decide), spec_DocValue.j3, if_neg (by decide), if_pos (by decide), int32_some [] _ (by simp)]; rfl
theorem wf_i64 {n : Int} (h : (Lit.int .i64 n).wf = true) : -9223372036854775808 ≤ n ∧ n ≤ 9223372036854775807 := by
  simpa [Lit.wf, IntKind.min, IntKind.max, IntKind.signed, IntKind.bits] using h
theorem wf_u64 {n : Int} (h : (Lit.int .u64 n).wf = true) : 0 ≤ n ∧ n ≤ 18446744073709551615 := by
  simpa [Lit.wf, IntKind.min, IntKind.max, IntKind.signed, IntKind.bits] using h
/-- What bindRight asks. -/
theorem right_ev (v : S37) (hv : FitV v) : Ev (fun k => laws_bindRight.f k v.f0 v.f1 v.f2 v.f3 v.f4 v.f5 v.f6 v.f7) false ∨ ∃ n b, SzV v n b ∧ n ≤ 1000 ∧ b ≤ 65536 ∧ docR 200 v.f0 v.f1 v.f2 v.f3 v.f4 v.f5 v.f6 v.f7 = some true ∧ Ev (fun k => laws_bindRight.f k v.f0 v.f1 v.f2 v.f3 v.f4 v.f5 v.f6 v.f7) true := by
  obtain ⟨c, h1, h2, ev, hsz⟩ := count 1000 (Nat.le_refl _) v hv
  have ev' : Ev (fun k => laws_docCount.f k v.f0 v.f1 v.f2 v.f3 v.f4 v.f5 v.f6 v.f7 1000) (c : Int) := ev
  by_cases hc : (c : Int) ≤ 1000
  · obtain ⟨b, hb⟩ := hsz (by omega)
    obtain ⟨q, hq⟩ := right_some 200 v hv
    have hdr : spec_DocRight.f v.f0 v.f1 v.f2 v.f3 v.f4 v.f5 v.f6 v.f7 = some q := by
      unfold spec_DocRight.f spec_docRight.f
      rw [if_pos (by decide), show (200 : Int).toNat = 200 from rfl, hq]; rfl
    cases q with
    | false =>
      left
      refine Ev.bind ev' ⟨0, fun k _ => ?_⟩
      show (if (c : Int) ≤ 1000 then _ else _) = _
      rw [if_pos hc, hdr]; rfl
    | true =>
      have evb := bytes hb hv (by omega)
      by_cases hbb : b ≤ 65536
      · right
        refine ⟨c, b, hb, by omega, hbb, hq, Ev.bind ev' (Ev.congr (f := fun k => (laws_docBytes.f k v.f0 v.f1 v.f2 v.f3 v.f4 v.f5 v.f6 v.f7).bind fun t => some (decide (t ≤ 65536))) (fun k => by rw [if_pos hc, hdr]; rfl) (Ev.bind evb ⟨0, fun k _ => ?_⟩))⟩
        show some (decide ((b : Int) ≤ 65536)) = _
        rw [decide_eq_true (by omega)]
      · left
        refine Ev.bind ev' (Ev.congr (f := fun k => (laws_docBytes.f k v.f0 v.f1 v.f2 v.f3 v.f4 v.f5 v.f6 v.f7).bind fun t => some (decide (t ≤ 65536))) (fun k => by rw [if_pos hc, hdr]; rfl) (Ev.bind evb ⟨0, fun k _ => ?_⟩))
        show some (decide ((b : Int) ≤ 65536)) = _
        rw [decide_eq_false (by omega)]
  · left
    refine Ev.bind ev' ⟨0, fun k _ => ?_⟩
    show (if (c : Int) ≤ 1000 then _ else _) = _
    rw [if_neg hc]
theorem end_ev (v : S37) (r : Int) (hr : r = (Go.FloatKind.f64.nearest v.f3 : Int)) (x : Bool) (hx : x = true) : Ev (fun k => laws_FnBindFloat64.j1 k r true x v.f0 v.f1 v.f2 v.f3 v.f4 v.f5 v.f6 v.f7) true := by
  subst hx
  subst hr
  by_cases h1 : v.f3 < (-9007199254740992)
  · refine ⟨2, fun k hk => ?_⟩
    obtain ⟨k, rfl⟩ : ∃ q, k = q + 2 := ⟨k - 2, by omega⟩
    show laws_FnBindFloat64.j1 (k + 2) _ _ _ _ _ _ _ _ _ _ _ = _
    rw [laws_FnBindFloat64.j1, if_pos rfl, if_pos h1, laws_FnBindFloat64.j2, if_pos rfl]
  · by_cases h2 : v.f3 > 9007199254740992
    · refine ⟨2, fun k hk => ?_⟩
      obtain ⟨k, rfl⟩ : ∃ q, k = q + 2 := ⟨k - 2, by omega⟩
      show laws_FnBindFloat64.j1 (k + 2) _ _ _ _ _ _ _ _ _ _ _ = _
      rw [laws_FnBindFloat64.j1, if_pos rfl, if_neg h1, laws_FnBindFloat64.j2, if_pos (by simpa using h2)]
    · refine Ev.step (f := fun k => laws_FnBindFloat64.j2 k (Go.FloatKind.f64.nearest v.f3 : Int) true false v.f0 v.f1 v.f2 v.f3 v.f4 v.f5 v.f6 v.f7) (fun k => by rw [laws_FnBindFloat64.j1, if_pos rfl, if_neg h1, decide_eq_false h2]) ?_
      refine Ev.step (f := fun k => (spec_BindDouble.f k v.f3).bind fun t => some ((Go.FloatKind.f64.nearest v.f3 : Int) == t)) (fun k => by rw [laws_FnBindFloat64.j2, if_neg (by decide), if_pos rfl]) ?_
      exact Ev.bind (bd_ev v.f3 (by omega) (by omega)) ⟨0, fun k _ => by simp⟩
/-- The whole law. -/
theorem holds (v : S37) (hv : FitV v) : ∃ k, laws_FnBindFloat64.f k v.f0 v.f1 v.f2 v.f3 v.f4 v.f5 v.f6 v.f7 = some true := by
  have out : ∀ x, x = true → Ev (fun k => laws_FnBindFloat64.j0 k x v.f0 v.f1 v.f2 v.f3 v.f4 v.f5 v.f6 v.f7) true := by
    intro x hx
    exact ⟨1, fun k hk => by obtain ⟨k, rfl⟩ : ∃ q, k = q + 1 := ⟨k - 1, by omega⟩; show laws_FnBindFloat64.j0 (k + 1) _ _ _ _ _ _ _ _ _ = _; rw [laws_FnBindFloat64.j0, if_pos hx]⟩
  obtain ⟨z, hz⟩ : ∃ z, laws_zzFits1.f v.f0 v.f1 v.f2 v.f3 v.f4 v.f5 v.f6 v.f7 = some z := by
    unfold laws_zzFits1.f
    (repeat' split) <;> exact ⟨_, rfl⟩
  cases z with
  | false => exact ⟨0, by unfold laws_FnBindFloat64.f; rw [hz]; rfl⟩
  | true =>
    apply Ev.rounds
    refine Ev.congr (f := fun k => (laws_bindRight.f k v.f0 v.f1 v.f2 v.f3 v.f4 v.f5 v.f6 v.f7).bind fun t => (if t = true then (laws_FnBindFloat64.j0 k (v.f0 == 19) v.f0 v.f1 v.f2 v.f3 v.f4 v.f5 v.f6 v.f7) else (laws_FnBindFloat64.j0 k true v.f0 v.f1 v.f2 v.f3 v.f4 v.f5 v.f6 v.f7))) (fun k => by unfold laws_FnBindFloat64.f; rw [hz]; rfl) ?_
    rcases right_ev v hv with ev | ⟨n, b, hsz, hn, hb, hr, ev⟩
    · exact Ev.bind ev (Ev.congr (fun k => by rw [if_neg (by decide)]) (out true rfl))
    · refine Ev.bind ev (Ev.congr (f := fun k => laws_FnBindFloat64.j0 k (v.f0 == 19) v.f0 v.f1 v.f2 v.f3 v.f4 v.f5 v.f6 v.f7) (fun k => by rw [if_pos rfl]) ?_)
      by_cases c19 : v.f0 = 19
      · exact out _ (by rw [c19]; rfl)
      · obtain ⟨hkn, h16⟩ := right_top 200 v hr
        have hmod := known_mod hkn
        have go : ∀ l r ok, Ev (fun k => spec_DocValue.f k v.f0 v.f1 v.f2 v.f3 v.f4 v.f5 v.f6 v.f7) l → asDouble v.f0 l = some (r, ok) →
            Ev (fun k => (if v.f0 = 1 then (if ok = true then (some (r == v.f4)) else (some false)) else (if v.f0 = 16 then (laws_FnBindFloat64.j1 k r ok (v.f0 == 16) v.f0 v.f1 v.f2 v.f3 v.f4 v.f5 v.f6 v.f7) else (laws_FnBindFloat64.j1 k r ok (v.f0 == 18) v.f0 v.f1 v.f2 v.f3 v.f4 v.f5 v.f6 v.f7)))) true →
            Ev (fun k => laws_FnBindFloat64.j0 k (v.f0 == 19) v.f0 v.f1 v.f2 v.f3 v.f4 v.f5 v.f6 v.f7) true := by
          intro l r ok h1 h2 h3
          refine Ev.step (f := fun k => (spec_BindRaw.f k v.f0 v.f1 v.f2 v.f3 v.f4 v.f5 v.f6 v.f7).bind fun bt => ((impl_RawAsFloat64.f bt.1 bt.2).bind fun bt2 => (if v.f0 = 1 then (if bt2.2 = true then (some (bt2.1 == v.f4)) else (some false)) else (if v.f0 = 16 then (laws_FnBindFloat64.j1 k bt2.1 bt2.2 (v.f0 == 16) v.f0 v.f1 v.f2 v.f3 v.f4 v.f5 v.f6 v.f7) else (laws_FnBindFloat64.j1 k bt2.1 bt2.2 (v.f0 == 18) v.f0 v.f1 v.f2 v.f3 v.f4 v.f5 v.f6 v.f7))))) (fun k => by rw [laws_FnBindFloat64.j0, if_neg (by simpa using c19)]) ?_
          have eb : Ev (fun k => spec_BindRaw.f k v.f0 v.f1 v.f2 v.f3 v.f4 v.f5 v.f6 v.f7) (v.f0, l) := Ev.bind h1 (Ev.now _)
          refine Ev.bind eb ?_
          have e2 : impl_RawAsFloat64.f v.f0 l = some (r, ok) := by unfold impl_RawAsFloat64.f; rw [hmod]; exact h2
          exact Ev.congr (fun k => by show (impl_RawAsFloat64.f v.f0 l).bind _ = _; rw [e2]; rfl) h3
        by_cases c1 : v.f0 = 1
        · have hb4 := wf_u64 hv.bits
          have e8 : (le8 v.f4).take 8 = le8 v.f4 := rfl
          refine go (le8 v.f4) v.f4 true (dv_1 v c1) ?_ ⟨0, fun k _ => by simp [c1]⟩
          unfold asDouble
          rw [if_pos c1, if_neg (by rw [le8_length]; decide), if_pos (by rw [e8]; exact le8_wf _), e8, le8_back _ hb4.1 hb4.2, Int.toNat_of_nonneg hb4.1]
        · by_cases c16 : v.f0 = 16
          · obtain ⟨a, b'⟩ := h16 c16
            refine go (le4 v.f3) (Go.FloatKind.f64.nearest v.f3 : Int) true (dv_16 v c16) ?_ (Ev.congr (fun k => by rw [if_neg c1, if_pos c16]) (end_ev v _ rfl _ (by rw [c16]; rfl)))
            unfold asDouble
            rw [if_neg c1, if_pos c16, show bsoncore_ReadInt32.f (le4 v.f3) = some (v.f3, [], true) from read32 v.f3 a b']
            rfl
          · by_cases c18 : v.f0 = 18
            · obtain ⟨a, b'⟩ := wf_i64 hv.n
              refine go (le8 v.f3) (Go.FloatKind.f64.nearest v.f3 : Int) true (dv_18 v c18) ?_ (Ev.congr (fun k => by rw [if_neg c1, if_neg c16]) (end_ev v _ rfl _ (by rw [c18]; rfl)))
              unfold asDouble
              rw [if_neg c1, if_neg c16, if_pos c18, show bsoncore_ReadInt64.f (le8 v.f3) = some (v.f3, [], true) from read64 v.f3 a (by omega)]
              rfl
            · obtain ⟨l, evl, _⟩ := value hsz hv hn hb
              refine go l 0 false evl ?_ ⟨1, fun k hk => ?_⟩
              · unfold asDouble
                rw [if_neg c1, if_neg c16, if_neg c18]
              · obtain ⟨k, rfl⟩ : ∃ q, k = q + 1 := ⟨k - 1, by omega⟩
                show (if v.f0 = 1 then _ else if v.f0 = 16 then _ else laws_FnBindFloat64.j1 (k + 1) 0 false (v.f0 == 18) v.f0 v.f1 v.f2 v.f3 v.f4 v.f5 v.f6 v.f7) = _
                rw [if_neg c1, if_neg c16, laws_FnBindFloat64.j1, if_neg (by simpa using c18)]
                rfl

end Go.Proofs.Ythlpmeiihchdjaa.PFlu.VT
