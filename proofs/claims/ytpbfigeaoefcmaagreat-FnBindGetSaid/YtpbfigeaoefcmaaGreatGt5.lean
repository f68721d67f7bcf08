/- Plain laws on the told functions of this seat, without memory. Conditions: as each theorem states them. -/
import Derived.Test.YtpbfigeaoefcmaaGreatProg
import Derived.Test.YtpbfigeaoefcmaaGreatHW
import Derived.Below
import Derived.Deep.Draws
import Derived.OwnWalk
import Derived.Tactics
import Derived.WalkKit
import Derived.KernelRfl
import Derived.RowKit3
import Derived.Deep.LoopGhost
import Derived.Deep.QuietTactic
import Derived.BigQuiet
import Derived.WideLaws
import Derived.Deep.DeepCutAuto
import Derived.Deep.CutBlock
import Derived.Laws.Rows
import Derived.Outline
import Derived.StillTailTactics
import Derived.Deep.RegionHeld3
import Derived.Test.YtpbfigeaoefcmaaGreatGt4
namespace Go.Proofs.YtpbfigeaoefcmaaGreat.PBg.VT
open Go.RowKit Go.Proofs.YtpbfigeaoefcmaaGreatW.PrintWords Go.Proofs.YtpbfigeaoefcmaaGreatW.PrintLast Go.Proofs.YtpbfigeaoefcmaaGreatW.PrintMore
set_option linter.unusedVariables false
set_option linter.unusedSimpArgs false
/-- What bindRight asks. -/
theorem right_ev (v : S26) (hv : FitV v) : Ev (fun k => laws_bindRight.f k v.f0 v.f1 v.f2 v.f3 v.f4 v.f5 v.f6 v.f7) false ∨ ∃ n b, SzV v n b ∧ n ≤ 1000 ∧ b ≤ 65536 ∧ docR 200 v.f0 v.f1 v.f2 v.f3 v.f4 v.f5 v.f6 v.f7 = some true ∧ Ev (fun k => laws_bindRight.f k v.f0 v.f1 v.f2 v.f3 v.f4 v.f5 v.f6 v.f7) true := by
  obtain ⟨c, h1, h2, ev, hsz⟩ := count 1000 (Nat.le_refl _) v hv
  have ev' : Ev (fun k => laws_docCount.f k v.f0 v.f1 v.f2 v.f3 v.f4 v.f5 v.f6 v.f7 1000) (c : Int) := ev
  by_cases hc : (c : Int) ≤ 1000
  · obtain ⟨b, hb⟩ := hsz (by omega)
    obtain ⟨q, hq⟩ := right_some 200 v hv
    have hdr : spec_DocRight.f v.f0 v.f1 v.f2 v.f3 v.f4 v.f5 v.f6 v.f7 = some q := by
      unfold spec_DocRight.f spec_docRight.f
      rw [if_pos (by decide), show (200 : Int).toNat = 200 from rfl, hq]; rfl
    cases q with
    | false =>
      left
      refine Ev.bind ev' ⟨0, fun k _ => ?_⟩
      show (if (c : Int) ≤ 1000 then _ else _) = _
      rw [if_pos hc, hdr]; rfl
    | true =>
      have evb := bytes hb hv (by omega)
      by_cases hbb : b ≤ 65536
      · right
        refine ⟨c, b, hb, by omega, hbb, hq, Ev.bind ev' (Ev.congr (f := fun k => (laws_docBytes.f k v.f0 v.f1 v.f2 v.f3 v.f4 v.f5 v.f6 v.f7).bind fun t => some (decide (t ≤ 65536))) (fun k => by rw [if_pos hc, hdr]; rfl) (Ev.bind evb ⟨0, fun k _ => ?_⟩))⟩
        show some (decide ((b : Int) ≤ 65536)) = _
        rw [decide_eq_true (by omega)]
      · left
        refine Ev.bind ev' (Ev.congr (f := fun k => (laws_docBytes.f k v.f0 v.f1 v.f2 v.f3 v.f4 v.f5 v.f6 v.f7).bind fun t => some (decide (t ≤ 65536))) (fun k => by rw [if_pos hc, hdr]; rfl) (Ev.bind evb ⟨0, fun k _ => ?_⟩))
        show some (decide ((b : Int) ≤ 65536)) = _
        rw [decide_eq_false (by omega)]
  · left
    refine Ev.bind ev' ⟨0, fun k _ => ?_⟩
    show (if (c : Int) ≤ 1000 then _ else _) = _
    rw [if_neg hc]
/-- What a right value is written as, and its elements' bytes. -/
theorem cont_value {v : S26} {n b : Nat} (h : SzV v n b) (hv : FitV v) (hn : n ≤ 1000) (hb : b ≤ 65536) (hkn : spec_DocKnown.f v.f0 = some true) (hm : (v.f0 = 7 → v.f6.length = 12) ∧ (v.f0 = 12 → v.f6.length = 12) ∧ (v.f0 = 11 → spec_DocPlain.f (v.f1.size + 1) v.f1 = some true ∧ spec_DocPlain.f (v.f2.size + 1) v.f2 = some true)) :
    ∃ body l, Ev (fun k => spec_DocBytes.f k v.f7) (le4 ((body.length + 5 : Nat) : Int) ++ (body ++ [0])) ∧ Ev (fun k => spec_DocValue.f k v.f0 v.f1 v.f2 v.f3 v.f4 v.f5 v.f6 v.f7) l ∧ Cont v body l ∧ l.length ≤ 100000 ∧ body.length ≤ 90000 ∧ v.f1.size ≤ 65536 ∧ v.f2.size ≤ 65536 ∧ v.f6.length ≤ 65536 := by
  obtain ⟨l', ev', hl'⟩ := value h hv (by omega) (by omega)
  cases h with
  | mk _ n b hs =>
  obtain ⟨body, ev, hl⟩ := kids_form v.f7 n b hs (by omega) (by omega) hv.kid v.f7 [] [] rfl hv.kids (by simp only [List.length_nil]; omega)
  simp only [List.length_nil] at hl
  have evB : Ev (fun k => spec_DocBytes.f k v.f7) (le4 ((body.length + 5 : Nat) : Int) ++ (body ++ [0])) := Ev.step (fun k => by rw [spec_DocBytes.f]; rfl) ev
  obtain ⟨l, h1, h2⟩ := dv_cont v (by omega) (by omega) (by omega) (by omega) body (by omega) evB hkn hm
  have := Ev.uniq_ h1 ev'
  subst this
  exact ⟨body, l, evB, h1, h2, by omega, by omega, by omega, by omega, by omega⟩
theorem right_nokids (d : Nat) (v : S26) (h : docR d v.f0 v.f1 v.f2 v.f3 v.f4 v.f5 v.f6 v.f7 = some true) (hk : ¬ (v.f0 = 3 ∨ v.f0 = 4 ∨ v.f0 = 15)) : v.f7 = [] := by
  have hf := right_flat d v h
  unfold bareFull at hf
  simp only [Bool.and_eq_true, Bool.or_eq_true] at hf
  obtain ⟨x1, x2, x3, x4, x5, x6, x⟩ := hf
  rcases x with x | x
  · exfalso
    simp only [bareKids, Bool.or_eq_true, beq_iff_eq] at x
    omega
  · exact List.length_eq_zero_iff.1 (by simpa using x)
theorem told_ev (v : S26) (body : List Int) (hB : Ev (fun k => spec_DocBytes.f k v.f7) (le4 ((body.length + 5 : Nat) : Int) ++ (body ++ [0]))) (hK : ¬ (v.f0 = 3 ∨ v.f0 = 4 ∨ v.f0 = 15) → v.f7 = []) :
    Ev (fun k => spec_BindTold.f k v.f0 v.f1 v.f2 v.f3 v.f4 v.f5 v.f6 v.f7) (v.f0, v.f1, v.f2, v.f3, v.f4, v.f5, flatB v body, []) := by
  by_cases hk : v.f0 = 3 ∨ v.f0 = 4 ∨ v.f0 = 15
  · have e : flatB v body = le4 ((body.length + 5 : Nat) : Int) ++ (body ++ [0]) := if_pos hk
    rw [e]
    refine Ev.congr (f := fun k => spec_BindTold.j0 k true v.f0 v.f1 v.f2 v.f3 v.f4 v.f5 v.f6 v.f7) (fun k => ?_) (Ev.step (f := fun k => (spec_DocBytes.f k v.f7).bind fun t => some (v.f0, v.f1, v.f2, v.f3, v.f4, v.f5, t, ([] : List S89))) (fun k => by rw [spec_BindTold.j0, if_pos rfl]) (Ev.bind hB (Ev.now _)))
    show spec_BindTold.f k v.f0 v.f1 v.f2 v.f3 v.f4 v.f5 v.f6 v.f7 = _
    unfold spec_BindTold.f
    rcases hk with hk | hk | hk <;> (rw [hk]; rfl)
  · have e : flatB v body = v.f6 := if_neg hk
    rw [e]
    refine Ev.congr (f := fun k => spec_BindTold.j0 k false v.f0 v.f1 v.f2 v.f3 v.f4 v.f5 v.f6 v.f7) (fun k => ?_) (Ev.step (f := fun _ => some (v.f0, v.f1, v.f2, v.f3, v.f4, v.f5, v.f6, ([] : List S89))) (fun k => by rw [spec_BindTold.j0, if_neg (by decide), hK hk]) (Ev.now _))
    show spec_BindTold.f k v.f0 v.f1 v.f2 v.f3 v.f4 v.f5 v.f6 v.f7 = _
    unfold spec_BindTold.f
    rw [if_neg (by omega), if_neg (by omega), show (v.f0 == 15) = false from beq_eq_false_iff_ne.2 (by omega)]
theorem has_ev (k : Int) : Ev (fun q => spec_BindHas.f q k) false ∨ (Ev (fun q => spec_BindHas.f q k) true ∧ spec_DocKnown.f k = some true ∧ k ≠ 6 ∧ k ≠ 10 ∧ k ≠ 255 ∧ k ≠ 127) := by
  have no : Ev (fun q => spec_BindHas.j0 q k true) false := Ev.step (fun q => by rw [spec_BindHas.j0, if_pos rfl]) (Ev.now _)
  by_cases h6 : k = 6
  · exact Or.inl (Ev.congr (fun q => by show spec_BindHas.f q k = _; unfold spec_BindHas.f; rw [if_pos h6, show (k == 6) = true from beq_iff_eq.2 h6]) no)
  by_cases h10 : k = 10
  · exact Or.inl (Ev.congr (fun q => by show spec_BindHas.f q k = _; unfold spec_BindHas.f; rw [if_neg h6, if_pos h10, show (k == 10) = true from beq_iff_eq.2 h10]) no)
  by_cases h255 : k = 255
  · exact Or.inl (Ev.congr (fun q => by show spec_BindHas.f q k = _; unfold spec_BindHas.f; rw [if_neg h6, if_neg h10, if_pos h255, show (k == 255) = true from beq_iff_eq.2 h255]) no)
  by_cases h127 : k = 127
  · exact Or.inl (Ev.congr (fun q => by show spec_BindHas.f q k = _; unfold spec_BindHas.f; rw [if_neg h6, if_neg h10, if_neg h255, show (k == 127) = true from beq_iff_eq.2 h127]) no)
  obtain ⟨b, hb⟩ := known_ex k
  have ev : Ev (fun q => spec_BindHas.f q k) b := Ev.congr (f := fun q => spec_BindHas.j0 q k false) (fun q => by show spec_BindHas.f q k = _; unfold spec_BindHas.f; rw [if_neg h6, if_neg h10, if_neg h255, show (k == 127) = false from beq_eq_false_iff_ne.2 h127]) (Ev.step (f := fun _ => some b) (fun q => by rw [spec_BindHas.j0, if_neg (by decide), hb]; rfl) (Ev.now _))
  cases b with
  | false => exact Or.inl ev
  | true => exact Or.inr ⟨ev, hb, h6, h10, h255, h127⟩
theorem known_list {k : Int} (h : spec_DocKnown.f k = some true) (h6 : k ≠ 6) (h10 : k ≠ 10) (h255 : k ≠ 255) (h127 : k ≠ 127) : k = 1 ∨ k = 2 ∨ k = 3 ∨ k = 4 ∨ k = 5 ∨ k = 7 ∨ k = 8 ∨ k = 9 ∨ k = 11 ∨ k = 12 ∨ k = 13 ∨ k = 14 ∨ k = 15 ∨ k = 16 ∨ k = 17 ∨ k = 18 ∨ k = 19 := by
  unfold spec_DocKnown.f at h
  (repeat' split at h) <;> simp at h <;> omega
theorem get_no (a k : Int) (l : List Int) (ha : a % 256 = a) (hne : a ≠ k) (hk : k = 1 ∨ k = 2 ∨ k = 3 ∨ k = 4 ∨ k = 5 ∨ k = 7 ∨ k = 8 ∨ k = 9 ∨ k = 11 ∨ k = 12 ∨ k = 13 ∨ k = 14 ∨ k = 15 ∨ k = 16 ∨ k = 17 ∨ k = 18 ∨ k = 19) : Ev (fun q => impl_RawGet.f q a l k) (0, ⟨#[]⟩, ⟨#[]⟩, 0, 0, 0, [], [], false) := by
  have o : impl_own.f [] = some [] := own_ok [] (by simp)
  refine ⟨1, fun q hq => ?_⟩
  obtain ⟨q, rfl⟩ : ∃ j, q = j + 1 := ⟨q - 1, by omega⟩
  show impl_RawGet.f (q + 1) a l k = _
  rcases hk with rfl | rfl | rfl | rfl | rfl | rfl | rfl | rfl | rfl | rfl | rfl | rfl | rfl | rfl | rfl | rfl | rfl <;> (simp +decide only [impl_RawGet.f, impl_RawGet.not, impl_RawGetA.f, impl_RawGetA.j0, impl_some.f, impl_one.f, bson_convertToCoreValue.f, bson_NewDecimal128.f, bson_Decimal128_GetBytes.f, bson_RawValue_StringValueOK.f, bsoncore_Value_StringValueOK.f, bson_RawValue_DocumentOK.f, bsoncore_Value_DocumentOK.f, bson_RawValue_ArrayOK.f, bsoncore_Value_ArrayOK.f, bson_RawValue_BinaryOK.f, bsoncore_Value_BinaryOK.f, bson_RawValue_BooleanOK.f, bsoncore_Value_BooleanOK.f, bson_RawValue_DateTimeOK.f, bsoncore_Value_DateTimeOK.f, bson_RawValue_RegexOK.f, bsoncore_Value_RegexOK.f, bson_RawValue_JavaScriptOK.f, bsoncore_Value_JavaScriptOK.f, bson_RawValue_SymbolOK.f, bsoncore_Value_SymbolOK.f, bson_RawValue_CodeWithScopeOK.f, bsoncore_Value_CodeWithScopeOK.f, bson_RawValue_Int32OK.f, bsoncore_Value_Int32OK.f, bson_RawValue_TimestampOK.f, bsoncore_Value_TimestampOK.f, bson_RawValue_Int64OK.f, bsoncore_Value_Int64OK.f, bson_RawValue_Decimal128OK.f, bsoncore_Value_Decimal128OK.f, ha, hne, if_false, Option.bind_some, o]; try rfl)
theorem holds (v : S26) (hv : FitV v) (kind : Int) : ∃ k, laws_FnBindGet.f k v.f0 v.f1 v.f2 v.f3 v.f4 v.f5 v.f6 v.f7 kind = some true := by
  have outj : ∀ x, x = true → Ev (fun k => laws_FnBindGet.j0 k kind x v.f0 v.f1 v.f2 v.f3 v.f4 v.f5 v.f6 v.f7) true := by
    intro x hx
    exact Ev.step (f := fun _ => some true) (fun k => by rw [laws_FnBindGet.j0, if_pos hx]) (Ev.now _)
  obtain ⟨z, hz⟩ : ∃ z, laws_zzFits1.f v.f0 v.f1 v.f2 v.f3 v.f4 v.f5 v.f6 v.f7 = some z := by
    unfold laws_zzFits1.f
    (repeat' split) <;> exact ⟨_, rfl⟩
  cases z with
  | false => exact ⟨0, by unfold laws_FnBindGet.f; rw [hz]; rfl⟩
  | true =>
  apply Ev.rounds
  refine Ev.congr (f := fun k => (laws_bindRight.f k v.f0 v.f1 v.f2 v.f3 v.f4 v.f5 v.f6 v.f7).bind fun t => (if t = true then ((spec_BindHas.f k kind).bind fun t881 => (laws_FnBindGet.j0 k kind (!t881) v.f0 v.f1 v.f2 v.f3 v.f4 v.f5 v.f6 v.f7)) else (laws_FnBindGet.j0 k kind true v.f0 v.f1 v.f2 v.f3 v.f4 v.f5 v.f6 v.f7))) (fun k => by unfold laws_FnBindGet.f; rw [hz]; rfl) ?_
  rcases right_ev v hv with ev | ⟨n, b, hsz, hn, hb, hr, ev⟩
  · exact Ev.bind ev (Ev.congr (fun k => by rw [if_neg (by decide)]) (outj true rfl))
  refine Ev.bind ev (Ev.congr (f := fun k => (spec_BindHas.f k kind).bind fun t881 => (laws_FnBindGet.j0 k kind (!t881) v.f0 v.f1 v.f2 v.f3 v.f4 v.f5 v.f6 v.f7)) (fun k => by rw [if_pos rfl]) ?_)
  rcases has_ev kind with eh | ⟨eh, hkn2, h6, h10, h255, h127⟩
  · exact Ev.bind eh (outj _ rfl)
  refine Ev.bind eh ?_
  obtain ⟨hkn, _⟩ := right_top 200 v hr
  obtain ⟨body, l, evB, evl, hc, hll, hbl, s1, s2, s6⟩ := cont_value hsz hv hn hb hkn (right_more 200 v hr)
  refine Ev.step (f := fun k => (spec_BindRaw.f k v.f0 v.f1 v.f2 v.f3 v.f4 v.f5 v.f6 v.f7).bind fun bt882 => ((impl_RawGet.f k bt882.1 bt882.2 kind).bind fun bt886 => (if v.f0 = kind then ((spec_BindTold.f k v.f0 v.f1 v.f2 v.f3 v.f4 v.f5 v.f6 v.f7).bind fun bt900 => ((laws_bindTree.f k bt886.1 bt886.2.1 bt886.2.2.1 bt886.2.2.2.1 bt886.2.2.2.2.1 bt886.2.2.2.2.2.1 bt886.2.2.2.2.2.2.1 bt886.2.2.2.2.2.2.2.1 bt886.2.2.2.2.2.2.2.2 bt900.1 bt900.2.1 bt900.2.2.1 bt900.2.2.2.1 bt900.2.2.2.2.1 bt900.2.2.2.2.2.1 bt900.2.2.2.2.2.2.1 bt900.2.2.2.2.2.2.2).bind fun t912 => (some t912))) else (some (!bt886.2.2.2.2.2.2.2.2))))) (fun k => by rw [laws_FnBindGet.j0, if_neg (by decide)]) ?_
  have eb : Ev (fun k => spec_BindRaw.f k v.f0 v.f1 v.f2 v.f3 v.f4 v.f5 v.f6 v.f7) (v.f0, l) := Ev.bind evl (Ev.now _)
  refine Ev.bind eb ?_
  by_cases hk : v.f0 = kind
  · subst hk
    have hread := read_back v body l [] hc hv 200 hr s1 s2 s6 hbl (by simp) (by omega)
    rw [List.append_nil] at hread
    refine Ev.bind hread ?_
    refine Ev.congr (fun k => by rw [if_pos rfl]) ?_
    refine Ev.bind (told_ev v body evB (right_nokids 200 v hr)) ?_
    exact Ev.congr (f := fun k => spec_DocSame.f k v.f0 v.f1 v.f2 v.f3 v.f4 v.f5 (flatB v body) [] v.f0 v.f1 v.f2 v.f3 v.f4 v.f5 (flatB v body) []) (fun k => by
      show (laws_bindTree.f k v.f0 v.f1 v.f2 v.f3 v.f4 v.f5 (flatB v body) [] true v.f0 v.f1 v.f2 v.f3 v.f4 v.f5 (flatB v body) []).bind _ = _
      unfold laws_bindTree.f
      rw [if_pos rfl]
      cases spec_DocSame.f k v.f0 v.f1 v.f2 v.f3 v.f4 v.f5 (flatB v body) [] v.f0 v.f1 v.f2 v.f3 v.f4 v.f5 (flatB v body) [] <;> rfl) (same_flat _ _ _ _ _ _ _)
  · refine Ev.bind (get_no v.f0 kind l (known_mod hkn) hk (known_list hkn2 h6 h10 h255 h127)) ?_
    exact Ev.congr (fun k => by rw [if_neg hk]; rfl) (Ev.now true)

end Go.Proofs.YtpbfigeaoefcmaaGreat.PBg.VT
