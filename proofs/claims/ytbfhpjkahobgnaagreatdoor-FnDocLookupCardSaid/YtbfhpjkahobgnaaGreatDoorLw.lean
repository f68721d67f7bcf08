/- Plain laws on the told functions of this seat, without memory. Conditions: as each theorem states them. -/
import Derived.Test.YtbfhpjkahobgnaaGreatDoorProg
import Derived.Test.YtbfhpjkahobgnaaGreatDoorHW
import Derived.Below
import Derived.Deep.Draws
import Derived.OwnWalk
import Derived.Tactics
import Derived.WalkKit
import Derived.KernelRfl
import Derived.RowKit3
import Derived.Deep.LoopGhost
import Derived.Deep.QuietTactic
import Derived.BigQuiet
import Derived.WideLaws
import Derived.Deep.DeepCutAuto
import Derived.Deep.CutBlock
import Derived.Laws.Rows
import Derived.Outline
import Derived.StillTailTactics
import Derived.Deep.RegionHeld3
import Derived.Test.YtbfhpjkahobgnaaGreatDoorLu
namespace Go.Proofs.YtbfhpjkahobgnaaGreatDoor.PLo.VT
open Go.RowKit Go.Proofs.YtbfhpjkahobgnaaGreatDoorW.PrintWords Go.Proofs.YtbfhpjkahobgnaaGreatDoorW.PrintLast Go.Proofs.YtbfhpjkahobgnaaGreatDoorW.PrintMore
set_option linter.unusedVariables false
set_option linter.unusedSimpArgs false
theorem own_ok (x : List Int) (h : x.length ≤ 1000000) : impl_own.f x = some x := by
  unfold impl_own.f
  rw [if_pos (by simp only [List.length_nil]; omega), List.nil_append]
theorem raw_ok (y : Int) (x : List Int) (h : x.length ≤ 1000000) : impl_raw.f y x = some (wrap64 y, x) := by
  unfold impl_raw.f
  rw [own_ok x h]
  rfl
theorem lookup_ev {b l : List Int} {names : List ByteArray} {y cd : Int} {er : Option (Int × ByteArray)} (h : Ev (fun k => bsoncore_Document_LookupErr.f k b names) (y, l, er)) (hl : l.length ≤ 1000000) (hc : impl_code.f er = some cd) : Ev (fun k => impl_Lookup.f k b names) (wrap64 y, l, cd) :=
  Ev.bind h (Ev.congr (fun k => by
    dsimp only
    rw [raw_ok y l hl, Option.bind_some, hc, Option.bind_some]) (Ev.now _))
theorem plain_ev {b l : List Int} {names : List ByteArray} {y : Int} {er : Option (Int × ByteArray)} (h : Ev (fun k => bsoncore_Document_LookupErr.f k b names) (y, l, er)) (hl : l.length ≤ 1000000) : Ev (fun k => impl_LookupPlain.f k b names) (wrap64 y, l) :=
  Ev.bind (Ev.bind h (Ev.now (y, l))) (Ev.congr (fun k => by
    dsimp only
    rw [raw_ok y l hl, Option.bind_some]) (Ev.now _))
theorem awake : Ev (fun k => laws_docAwake.f k) true := Ev.of (fun k => laws_docAwake.mono k) (k := 60) (by decide +kernel)
/-- What stands behind the names' tests. -/
def last (k : Nat) (K : List S73) (names : List ByteArray) (bt748 : Int × ByteArray × ByteArray × Int × Int × Int × List Int × List S73 × Int) : Option Bool := ((spec_DocBytes.f k K).bind fun t762 => ((impl_Lookup.f k t762 names).bind fun bt765 => ((impl_LookupPlain.f k t762 names).bind fun bt771 => (if bt748.2.2.2.2.2.2.2.2 = 0 then ((spec_DocValue.f k bt748.1 bt748.2.1 bt748.2.2.1 bt748.2.2.2.1 bt748.2.2.2.2.1 bt748.2.2.2.2.2.1 bt748.2.2.2.2.2.2.1 bt748.2.2.2.2.2.2.2.1).bind fun t777 => (if bt765.2.2 = 0 then ((laws_docSameRaw.f bt765.1 bt765.2.1 bt748.1 t777).bind fun t780 => (if t780 = true then ((laws_docSameRaw.f bt771.1 bt771.2 bt748.1 t777).bind fun t781 => (some t781)) else (none))) else (none))) else ((laws_docAwake.f k).bind fun t776 => (if t776 = true then (if bt765.2.2 = bt748.2.2.2.2.2.2.2.2 then (if (bt771.2.length : Int) = 0 then (some (bt771.1 == 0)) else (none)) else (none)) else (none)))))))
theorem last_bad {K : List S73} {names : List ByteArray} {b : List Int} {er : Option (Int × ByteArray)} (w : S46) (c : Int) (hb : Ev (fun k => spec_DocBytes.f k K) b) (h : Ev (fun k => bsoncore_Document_LookupErr.f k b names) (0, [], er)) (hc : impl_code.f er = some c) (h0 : c ≠ 0) : Ev (fun k => last k K names (w.f0, w.f1, w.f2, w.f3, w.f4, w.f5, w.f6, w.f7, c)) true := by
  refine Ev.bind hb (Ev.bind (lookup_ev h (by decide) hc) (Ev.bind (plain_ev h (by decide)) ?_))
  refine Ev.congr (f := fun k => (laws_docAwake.f k).bind fun t776 => (if t776 = true then (if c = c then (if ((([] : List Int).length : Nat) : Int) = 0 then (some (wrap64 0 == 0)) else (none)) else (none)) else (none))) (fun k => if_neg h0) (Ev.bind awake (Ev.congr (fun k => ?_) (Ev.now _)))
  rw [if_pos rfl, if_pos rfl, if_pos (show ((([] : List Int).length : Nat) : Int) = 0 from rfl), show wrap64 0 = 0 from w64 (by omega) (by omega)]
  rfl
theorem last_good {K : List S73} {names : List ByteArray} {b lv : List Int} (w : S46) (hb : Ev (fun k => spec_DocBytes.f k K) b) (h : Ev (fun k => bsoncore_Document_LookupErr.f k b names) (w.f0, lv, none)) (hl : lv.length ≤ 200000) (hk0 : 1 ≤ w.f0) (hk1 : w.f0 ≤ 255) (ev : Ev (fun k => spec_DocValue.f k w.f0 w.f1 w.f2 w.f3 w.f4 w.f5 w.f6 w.f7) lv) : Ev (fun k => last k K names (w.f0, w.f1, w.f2, w.f3, w.f4, w.f5, w.f6, w.f7, 0)) true := by
  have e0 : wrap64 w.f0 = w.f0 := w64 (by omega) (by omega)
  have l1 := lookup_ev (cd := 0) h (by omega) rfl
  have l2 := plain_ev h (by omega)
  rw [e0] at l1 l2
  have hsame : laws_docSameRaw.f w.f0 lv w.f0 lv = some true := by
    unfold laws_docSameRaw.f
    rw [if_pos rfl]
    exact congrArg some (same_list lv)
  refine Ev.bind hb (Ev.bind l1 (Ev.bind l2 ?_))
  refine Ev.congr (f := fun k => (spec_DocValue.f k w.f0 w.f1 w.f2 w.f3 w.f4 w.f5 w.f6 w.f7).bind fun t777 => (if (0 : Int) = 0 then ((laws_docSameRaw.f w.f0 lv w.f0 t777).bind fun t780 => (if t780 = true then ((laws_docSameRaw.f w.f0 lv w.f0 t777).bind fun t781 => (some t781)) else (none))) else (none))) (fun k => if_pos rfl) (Ev.bind ev (Ev.congr (fun k => ?_) (Ev.now _)))
  rw [if_pos rfl, hsame, Option.bind_some, if_pos rfl, Option.bind_some]
theorem main_ev (K : List S73) (names : List ByteArray) (hn : names.length ≤ 20) (hf : Fine ⟨3, ⟨#[]⟩, ⟨#[]⟩, 0, 0, 0, [], K⟩) : Ev (fun k => (laws_docLeads.f k K names).bind (last k K names)) true := by
  obtain ⟨⟨body, hw, hb⟩, hkl, -⟩ := fine_kids hf (Or.inl rfl)
  have hM' : K.length ≤ M := by show _ ≤ 140737488351232; have : K.length ≤ 300 := hkl; omega
  have hD := wr_doc hw hM' (by omega)
  cases names with
  | nil =>
    refine Ev.bind (a := (zv.f0, zv.f1, zv.f2, zv.f3, zv.f4, zv.f5, zv.f6, zv.f7, 8)) (Ev.congr (fun k => by unfold laws_docLeads.f; rw [if_pos (by rfl)]) (Ev.now _)) (last_bad zv 8 hD (er := some (-3, (⟨#[]⟩ : ByteArray))) (Ev.step (fun k => by rw [bsoncore_Document_LookupErr.f, if_pos (by decide)]) (Ev.now _)) rfl (by decide))
  | cons nm more =>
    obtain ⟨w, c, ev, -, -, i3⟩ := lead_ev (nm :: more) (nm :: more) [] ⟨3, ⟨#[]⟩, ⟨#[]⟩, 0, 0, 0, [], K⟩ rfl hn hf
    obtain ⟨res, hres, hR⟩ := i3 (by simp) (Or.inl rfl) body hw hb
    refine Ev.bind (Ev.congr (fun k => by unfold laws_docLeads.f; rw [if_neg (by simp only [List.length_cons]; omega)]; rfl) ev) ?_
    rcases hR with ⟨rfl, lv, rfl, evl, hl, hk0, hk1⟩ | ⟨rfl, rfl⟩ | ⟨rfl, x, rfl⟩
    · exact last_good w hD hres hl hk0 hk1 evl
    · exact last_bad w 7 hD hres rfl (by decide)
    · exact last_bad w 10 hD hres rfl (by decide)
theorem names_ev (K : List S73) (names : List ByteArray) (hn : names.length ≤ 20) (hns : ∀ s, s ∈ names → s.size ≤ M) (hf : Fine ⟨3, ⟨#[]⟩, ⟨#[]⟩, 0, 0, 0, [], K⟩) : ∀ (r pre : List ByteArray), names = pre ++ r → Ev (fun k => laws_FnDocLookup.l0 k K names (pre.length : Int)) true := by
  intro r
  induction r with
  | nil =>
    intro pre he
    have hl : names.length = pre.length := by rw [he, List.append_nil]
    exact Ev.step (fun k => by rw [laws_FnDocLookup.l0, if_neg (by omega)]; rfl) (main_ev K names hn hf)
  | cons s r ih =>
    intro pre he
    have hl : names.length = pre.length + (r.length + 1) := by rw [he]; simp
    have hrn : rdOf ByteArray.empty names (pre.length : Int) = s := by
      rw [he]
      unfold rdOf
      rw [Int.toNat_natCast]
      simp
    have e2 : wrap64 ((pre.length : Int) + 1) = (((pre ++ [s]).length : Nat) : Int) := by rw [w64 (by omega) (by omega)]; simp
    obtain ⟨p, hp⟩ := plain_some s (hns s (by rw [he]; simp))
    have evp : Ev (fun k => spec_DocPlain.f k s) p := Ev.of (fun k => spec_DocPlain.mono _ _) hp
    have out : Ev (fun k => laws_FnDocLookup.j3 k K names (pre.length : Int) true) true := Ev.step (fun k => by rw [laws_FnDocLookup.j3, if_pos rfl]) (Ev.now _)
    refine Ev.step (f := fun k => (spec_DocPlain.f k s).bind fun t746 => (if t746 = true then (laws_FnDocLookup.j3 k K names (pre.length : Int) (decide ((s.size : Int) > 200))) else (laws_FnDocLookup.j3 k K names (pre.length : Int) true))) (fun k => by rw [laws_FnDocLookup.l0, if_pos (by omega), if_pos (by omega), hrn]) (Ev.bind evp ?_)
    cases p with
    | false => exact Ev.congr (fun k => if_neg (by decide)) out
    | true =>
      refine Ev.congr (f := fun k => laws_FnDocLookup.j3 k K names (pre.length : Int) (decide ((s.size : Int) > 200))) (fun k => if_pos rfl) ?_
      by_cases h2 : (s.size : Int) > 200
      · rw [decide_eq_true h2]; exact out
      · rw [decide_eq_false h2]
        exact Ev.step (fun k => by rw [laws_FnDocLookup.j3, if_neg (by decide), e2]) (ih (pre ++ [s]) (by rw [he]; simp))
theorem fits_ev (names : List ByteArray) (hn : names.length ≤ M) : ∃ b, Ev (fun k => laws_zzFits2.f k names) b := by
  by_cases h0 : (names.length : Int) > 2147483647
  · exact ⟨false, Ev.congr (fun k => by unfold laws_zzFits2.f; rw [if_pos h0]) (Ev.now _)⟩
  have key : ∀ (r pre : List ByteArray), names = pre ++ r → ∃ b, Ev (fun k => laws_zzFits2.l0 k names (names.length : Int) (pre.length : Int)) b := by
    intro r
    induction r with
    | nil =>
      intro pre he
      have hl : names.length = pre.length := by rw [he, List.append_nil]
      exact ⟨true, Ev.step (fun k => by rw [laws_zzFits2.l0, if_neg (by omega)]) (Ev.now _)⟩
    | cons s r ih =>
      intro pre he
      have hl : names.length = pre.length + (r.length + 1) := by rw [he]; simp
      have e2 : wrap64 ((pre.length : Int) + 1) = (((pre ++ [s]).length : Nat) : Int) := by rw [w64 (by omega) (by omega)]; simp
      obtain ⟨b, ev⟩ := ih (pre ++ [s]) (by rw [he]; simp)
      by_cases h1 : ((rdOf ByteArray.empty names (pre.length : Int)).size : Int) > 2147483647
      · exact ⟨false, Ev.step (fun k => by rw [laws_zzFits2.l0, if_pos (by omega), if_pos (by omega), if_pos (by omega), if_pos h1]) (Ev.now _)⟩
      · exact ⟨b, Ev.step (fun k => by rw [laws_zzFits2.l0, if_pos (by omega), if_pos (by omega), if_pos (by omega), if_neg h1, e2]) ev⟩
  obtain ⟨b, ev⟩ := key names [] rfl
  exact ⟨b, Ev.congr (fun k => by unfold laws_zzFits2.f; rw [if_neg h0]; rfl) ev⟩
theorem holds (K : List S73) (hK : K.length ≤ M) (hKn : ∀ e, e ∈ K → e.f0.size ≤ M) (hKk : ∀ e, e ∈ K → FitV e.f1) (names : List ByteArray) (hn : names.length ≤ M) (hns : ∀ s, s ∈ names → s.size ≤ M) : ∃ k, laws_FnDocLookup.f k K names = some true := by
  refine Ev.rounds ?_
  have out : Ev (fun k => laws_FnDocLookup.j0 k K names true) true := Ev.step (fun k => by rw [laws_FnDocLookup.j0, if_pos rfl]) (Ev.now _)
  by_cases h0 : (K.length : Int) > 2147483647
  · exact Ev.congr (fun k => by unfold laws_FnDocLookup.f; rw [if_pos h0]) out
  obtain ⟨b, evb⟩ := fits_ev names hn
  refine Ev.congr (f := fun k => (laws_zzFits2.f k names).bind fun t743 => (laws_FnDocLookup.j0 k K names (!t743))) (fun k => by unfold laws_FnDocLookup.f; rw [if_neg h0]) (Ev.bind evb ?_)
  cases b with
  | false => exact out
  | true =>
    have out1 : Ev (fun k => laws_FnDocLookup.j1 k K names true) true := Ev.step (fun k => by rw [laws_FnDocLookup.j1, if_pos rfl]) (Ev.now _)
    refine Ev.step (f := fun k => (laws_docFineKids.f k K).bind fun t744 => (if t744 = true then (laws_FnDocLookup.j1 k K names (decide ((names.length : Int) > 20))) else (laws_FnDocLookup.j1 k K names true))) (fun k => by rw [show (!true) = false from rfl, laws_FnDocLookup.j0, if_neg (by decide)]) ?_
    have hfit : FitV ⟨3, ⟨#[]⟩, ⟨#[]⟩, 0, 0, 0, [], K⟩ := .mk _ (show (Lit.int .i64 3).wf = true by decide +kernel) (Nat.zero_le _) (Nat.zero_le _) (show (Lit.int .i64 0).wf = true by decide +kernel) (show (Lit.int .u64 0).wf = true by decide +kernel) (show (Lit.int .u64 0).wf = true by decide +kernel) (Nat.zero_le _) (fun x hx => by cases hx) hK hKn hKk
    rcases fine_ev ⟨3, ⟨#[]⟩, ⟨#[]⟩, 0, 0, 0, [], K⟩ hfit with ev | ⟨n, bb, hsz, h1, h2, hr, ev⟩
    · exact Ev.bind (a := false) (Ev.bind ev (Ev.now _)) (Ev.congr (fun k => if_neg (by decide)) out1)
    · refine Ev.bind (a := true) (Ev.bind ev (Ev.now _)) (Ev.congr (f := fun k => laws_FnDocLookup.j1 k K names (decide ((names.length : Int) > 20))) (fun k => if_pos rfl) ?_)
      by_cases h20 : (names.length : Int) > 20
      · rw [decide_eq_true h20]; exact out1
      · rw [decide_eq_false h20]
        exact Ev.step (fun k => by rw [laws_FnDocLookup.j1, if_neg (by decide)]; rfl) (names_ev K names (by omega) hns ⟨hfit, n, bb, 200, hsz, h1, h2, hr⟩ names [] rfl)

end Go.Proofs.YtbfhpjkahobgnaaGreatDoor.PLo.VT
