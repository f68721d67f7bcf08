/- Plain laws on the told functions of this seat, without memory. Conditions: as each theorem states them. -/
import Derived.Test.YtanecebppagakaaGreatDoorProg
import Derived.Test.YtanecebppagakaaGreatDoorHW
import Derived.Below
import Derived.Deep.Draws
import Derived.OwnWalk
import Derived.Tactics
import Derived.WalkKit
import Derived.KernelRfl
import Derived.RowKit3
import Derived.Deep.LoopGhost
import Derived.Deep.QuietTactic
import Derived.BigQuiet
import Derived.WideLaws
import Derived.Deep.DeepCutAuto
import Derived.Deep.CutBlock
import Derived.Laws.Rows
import Derived.Outline
import Derived.StillTailTactics
import Derived.Deep.RegionHeld3
import Derived.Test.YtanecebppagakaaGreatDoorPRxx17
import Derived.Test.YtanecebppagakaaGreatDoorRSv
import Derived.Test.YtanecebppagakaaGreatDoorRb4
namespace Go.Proofs.YtanecebppagakaaGreatDoor.PRx.VT
open Go.RowKit Go.Proofs.YtanecebppagakaaGreatDoorW.PrintWords Go.Proofs.YtanecebppagakaaGreatDoorW.PrintLast Go.Proofs.YtanecebppagakaaGreatDoorW.PrintMore
set_option linter.unusedVariables false
set_option linter.unusedSimpArgs false
/-- What a right value is written as, and its elements' bytes. -/
theorem cont_value {v : S44} {n b : Nat} (h : SzV v n b) (hv : FitV v) (hn : n ≤ 300) (hb : b ≤ 5000) (hkn : spec_DocKnown.f v.f0 = some true) (hm : (v.f0 = 7 → v.f6.length = 12) ∧ (v.f0 = 12 → v.f6.length = 12) ∧ (v.f0 = 11 → spec_DocPlain.f (v.f1.size + 1) v.f1 = some true ∧ spec_DocPlain.f (v.f2.size + 1) v.f2 = some true)) :
    ∃ body l, Ev (fun k => spec_DocBytes.f k v.f7) (le4 ((body.length + 5 : Nat) : Int) ++ (body ++ [0])) ∧ Ev (fun k => spec_DocValue.f k v.f0 v.f1 v.f2 v.f3 v.f4 v.f5 v.f6 v.f7) l ∧ Cont v body l ∧ l.length ≤ 100000 ∧ body.length ≤ 70000 ∧ v.f1.size ≤ 65536 ∧ v.f2.size ≤ 65536 ∧ v.f6.length ≤ 65536 := by
  obtain ⟨l', ev', hl'⟩ := value h hv (by omega) (by omega)
  cases h with
  | mk _ n b hs =>
  obtain ⟨body, ev, hl⟩ := kids_form v.f7 n b hs (by omega) (by omega) hv.kid v.f7 [] [] rfl hv.kids (by simp only [List.length_nil]; omega)
  simp only [List.length_nil] at hl
  have evB : Ev (fun k => spec_DocBytes.f k v.f7) (le4 ((body.length + 5 : Nat) : Int) ++ (body ++ [0])) := Ev.step (fun k => by rw [spec_DocBytes.f]; rfl) ev
  obtain ⟨l, h1, h2⟩ := dv_cont v (by omega) (by omega) (by omega) (by omega) body (by omega) evB hkn hm
  have := Ev.uniq_ h1 ev'
  subst this
  exact ⟨body, l, evB, h1, h2, by omega, by omega, by omega, by omega, by omega⟩
theorem right_nokids (d : Nat) (v : S44) (h : docR d v.f0 v.f1 v.f2 v.f3 v.f4 v.f5 v.f6 v.f7 = some true) (hk : ¬ (v.f0 = 3 ∨ v.f0 = 4 ∨ v.f0 = 15)) : v.f7 = [] := by
  have hf := right_flat d v h
  unfold bareFull at hf
  simp only [Bool.and_eq_true, Bool.or_eq_true] at hf
  obtain ⟨x1, x2, x3, x4, x5, x6, x⟩ := hf
  rcases x with x | x
  · exfalso
    simp only [bareKids, Bool.or_eq_true, beq_iff_eq] at x
    omega
  · exact List.length_eq_zero_iff.1 (by simpa using x)
theorem flat_ev (v : S44) (body : List Int) (hB : Ev (fun k => spec_DocBytes.f k v.f7) (le4 ((body.length + 5 : Nat) : Int) ++ (body ++ [0]))) (hK : ¬ (v.f0 = 3 ∨ v.f0 = 4 ∨ v.f0 = 15) → v.f7 = []) :
    Ev (fun k => laws_docFlat.f k v.f0 v.f1 v.f2 v.f3 v.f4 v.f5 v.f6 v.f7) (v.f0, v.f1, v.f2, v.f3, v.f4, v.f5, flatB v body, []) := by
  by_cases hk : v.f0 = 3 ∨ v.f0 = 4 ∨ v.f0 = 15
  · have e : flatB v body = le4 ((body.length + 5 : Nat) : Int) ++ (body ++ [0]) := if_pos hk
    rw [e]
    refine Ev.step (f := fun k => (spec_DocBytes.f k v.f7).bind fun t => some (v.f0, v.f1, v.f2, v.f3, v.f4, v.f5, t, ([] : List S95))) (fun k => ?_) (Ev.bind hB (Ev.now _))
    show laws_docFlat.f (k + 1) _ _ _ _ _ _ _ _ = _
    unfold laws_docFlat.f
    rcases hk with hk | hk | hk <;> (rw [hk]; rfl)
  · have e : flatB v body = v.f6 := if_neg hk
    rw [e]
    refine Ev.step (f := fun _ => some (v.f0, v.f1, v.f2, v.f3, v.f4, v.f5, v.f6, ([] : List S95))) (fun k => ?_) (Ev.now _)
    show laws_docFlat.f (k + 1) _ _ _ _ _ _ _ _ = _
    unfold laws_docFlat.f
    rw [if_neg (by omega), if_neg (by omega), laws_docFlat.j0, if_neg (by simp; omega), hK hk]
theorem awake : Ev (fun k => laws_docAwake.f k) true := Ev.of (fun k => laws_docAwake.mono k) (k := 60) (by decide +kernel)
theorem right_zero (d : Nat) (v : S44) (h : docR d v.f0 v.f1 v.f2 v.f3 v.f4 v.f5 v.f6 v.f7 = some true) : (bareBy v.f0 = false → v.f6 = []) ∧ (bareText v.f0 = false → v.f1 = ⟨#[]⟩) ∧ (bareMore v.f0 = false → v.f2 = ⟨#[]⟩) ∧ (bareN v.f0 = false → v.f3 = 0) ∧ (bareBits v.f0 = false → v.f4 = 0) ∧ (bareHigh v.f0 = false → v.f5 = 0) := by
  have hf := right_flat d v h
  unfold bareFull at hf
  simp only [Bool.and_eq_true, Bool.or_eq_true] at hf
  obtain ⟨x1, x2, x3, x4, x5, x6, _⟩ := hf
  refine ⟨fun e => ?_, fun e => ?_, fun e => ?_, fun e => ?_, fun e => ?_, fun e => ?_⟩
  · rcases x6 with x | x
    · rw [e] at x; cases x
    · exact List.length_eq_zero_iff.1 (by simpa using x)
  · rcases x1 with x | x
    · rw [e] at x; cases x
    · exact str_nil x
  · rcases x2 with x | x
    · rw [e] at x; cases x
    · exact str_nil x
  · rcases x3 with x | x
    · rw [e] at x; cases x
    · simpa using x
  · rcases x4 with x | x
    · rw [e] at x; cases x
    · simpa using x
  · rcases x5 with x | x
    · rw [e] at x; cases x
    · simpa using x
/-- The law, but for the kinds without bytes (rb_none: to be told). -/
theorem holds_ (rb_none : ∀ (k : Int) (r : List Int), (k = 6 ∨ k = 10 ∨ k = 127 ∨ k = 255) → r.length ≤ 1000 → RO k r ⟨#[]⟩ ⟨#[]⟩ 0 0 0 [] r) (v : S44) (hv : FitV v) (r : List Int) : ∃ k, laws_FnDocReadBack.f k v.f0 v.f1 v.f2 v.f3 v.f4 v.f5 v.f6 v.f7 r = some true := by
  refine Ev.rounds ?_
  have out : ∀ (f : Nat → Option Bool), (∀ k, f (k + 1) = some true) → Ev f true := fun f h => ⟨1, fun k hk => by obtain ⟨q, rfl⟩ : ∃ q, k = q + 1 := ⟨k - 1, by omega⟩; exact h q⟩
  have out0 : Ev (fun k => laws_FnDocReadBack.j0 k r true v.f0 v.f1 v.f2 v.f3 v.f4 v.f5 v.f6 v.f7) true := out _ (fun k => by rw [laws_FnDocReadBack.j0, if_pos rfl])
  have out1 : Ev (fun k => laws_FnDocReadBack.j1 k r true v.f0 v.f1 v.f2 v.f3 v.f4 v.f5 v.f6 v.f7) true := out _ (fun k => by rw [laws_FnDocReadBack.j1, if_pos rfl])
  obtain ⟨z, hz⟩ : ∃ z, laws_zzFits1.f v.f0 v.f1 v.f2 v.f3 v.f4 v.f5 v.f6 v.f7 = some z := by
    unfold laws_zzFits1.f
    (repeat' split) <;> exact ⟨_, rfl⟩
  cases z with
  | false => exact Ev.congr (fun k => by unfold laws_FnDocReadBack.f; rw [hz]; rfl) out0
  | true =>
  refine Ev.congr (f := fun k => laws_FnDocReadBack.j0 k r (decide ((r.length : Int) > 2147483647)) v.f0 v.f1 v.f2 v.f3 v.f4 v.f5 v.f6 v.f7) (fun k => by unfold laws_FnDocReadBack.f; rw [hz]; rfl) ?_
  by_cases h1 : (r.length : Int) > 2147483647
  · rw [decide_eq_true h1]; exact out0
  rw [decide_eq_false h1]
  by_cases h2 : (r.length : Int) > 1000
  · exact Ev.step (f := fun k => laws_FnDocReadBack.j1 k r true v.f0 v.f1 v.f2 v.f3 v.f4 v.f5 v.f6 v.f7) (fun k => by rw [laws_FnDocReadBack.j0, if_neg (by decide), if_pos h2]) out1
  refine Ev.step (f := fun k => (laws_docFine.f k v.f0 v.f1 v.f2 v.f3 v.f4 v.f5 v.f6 v.f7).bind fun t => laws_FnDocReadBack.j1 k r (!t) v.f0 v.f1 v.f2 v.f3 v.f4 v.f5 v.f6 v.f7) (fun k => by rw [laws_FnDocReadBack.j0, if_neg (by decide), if_neg h2]) ?_
  rcases fine_ev v hv with hf | ⟨n, b, hsz, hn, hb, hr, hf⟩
  · exact Ev.bind hf out1
  refine Ev.bind hf ?_
  obtain ⟨hkn, _⟩ := right_top 200 v hr
  obtain ⟨body, l, evB, evl, hc, hll, hbl, s1, s2, s6⟩ := cont_value hsz hv hn hb hkn (right_more 200 v hr)
  have hread : RO v.f0 (l ++ r) v.f1 v.f2 v.f3 v.f4 v.f5 (flatB v body) r := by
    by_cases h0 : v.f0 = 6 ∨ v.f0 = 10 ∨ v.f0 = 127 ∨ v.f0 = 255
    · have hl : l = [] := by cases hc <;> first | assumption | omega
      obtain ⟨f6, f1, f2, f3, f4, f5⟩ := right_zero 200 v hr
      have e : flatB v body = v.f6 := if_neg (by omega)
      rw [e, hl, List.nil_append, f6 (by rcases h0 with h | h | h | h <;> rw [h] <;> decide), f1 (by rcases h0 with h | h | h | h <;> rw [h] <;> decide), f2 (by rcases h0 with h | h | h | h <;> rw [h] <;> decide), f3 (by rcases h0 with h | h | h | h <;> rw [h] <;> decide), f4 (by rcases h0 with h | h | h | h <;> rw [h] <;> decide), f5 (by rcases h0 with h | h | h | h <;> rw [h] <;> decide)]
      exact rb_none v.f0 r h0 (by omega)
    · exact read_back v body l r hc hv 200 hr s1 s2 s6 hbl (by omega) h0
  have hflat := flat_ev v body evB (right_nokids 200 v hr)
  refine Ev.step (fun k => by show laws_FnDocReadBack.j1 (k + 1) r false v.f0 v.f1 v.f2 v.f3 v.f4 v.f5 v.f6 v.f7 = _; rw [laws_FnDocReadBack.j1, if_neg (by decide)]) ?_
  refine Ev.bind evl ?_
  refine Ev.congr (fun k => by rw [if_pos (by omega)]) ?_
  refine Ev.bind hread ?_
  refine Ev.bind awake ?_
  refine Ev.congr (fun k => by rw [if_pos rfl, if_pos rfl]) ?_
  refine Ev.bind hflat ?_
  refine Ev.bind (same_flat _ _ _ _ _ _ _) ?_
  exact ⟨0, fun k _ => by simp⟩

end Go.Proofs.YtanecebppagakaaGreatDoor.PRx.VT
