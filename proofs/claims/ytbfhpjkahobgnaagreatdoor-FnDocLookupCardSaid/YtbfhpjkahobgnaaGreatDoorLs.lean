/- Plain laws on the told functions of this seat, without memory. Conditions: as each theorem states them. -/
import Derived.Test.YtbfhpjkahobgnaaGreatDoorProg
import Derived.Test.YtbfhpjkahobgnaaGreatDoorHW
import Derived.Below
import Derived.Deep.Draws
import Derived.OwnWalk
import Derived.Tactics
import Derived.WalkKit
import Derived.KernelRfl
import Derived.RowKit3
import Derived.Deep.LoopGhost
import Derived.Deep.QuietTactic
import Derived.BigQuiet
import Derived.WideLaws
import Derived.Deep.DeepCutAuto
import Derived.Deep.CutBlock
import Derived.Laws.Rows
import Derived.Outline
import Derived.StillTailTactics
import Derived.Deep.RegionHeld3
import Derived.Test.YtbfhpjkahobgnaaGreatDoorLv
namespace Go.Proofs.YtbfhpjkahobgnaaGreatDoor.PLo.VT
open Go.RowKit Go.Proofs.YtbfhpjkahobgnaaGreatDoorW.PrintWords Go.Proofs.YtbfhpjkahobgnaaGreatDoorW.PrintLast Go.Proofs.YtbfhpjkahobgnaaGreatDoorW.PrintMore
set_option linter.unusedVariables false
set_option linter.unusedSimpArgs false
/-- What is known of a right value's bytes, by its kind. -/
inductive Shape (k : Int) (l : List Int) : Prop
  | w8 (h : k = 1 ∨ k = 9 ∨ k = 17 ∨ k = 18) (hl : l.length = 8) (hw : ∀ z ∈ l, (Lit.int .u8 z).wf = true)
  | w16 (h : k = 19) (hl : l.length = 16) (hw : ∀ z ∈ l, (Lit.int .u8 z).wf = true)
  | w4 (h : k = 16) (hl : l.length = 4)
  | w1 (h : k = 8) (hl : l.length = 1)
  | w12 (h : k = 7) (hl : l.length = 12)
  | w0 (h : k = 6 ∨ k = 10 ∨ k = 127 ∨ k = 255) (hl : l.length = 0)
  | pt (h : k = 2 ∨ k = 13 ∨ k = 14) (m : Nat) (x : List Int) (hl : l = le4 (m : Int) ++ x) (hx : x.length = m)
  | pd (h : k = 3 ∨ k = 4 ∨ k = 15) (m : Nat) (x : List Int) (hl : l = le4 (m : Int) ++ x) (hx : x.length + 4 = m)
  | pb (h : k = 5) (m : Nat) (x : List Int) (hl : l = le4 (m : Int) ++ x) (hx : x.length = m + 1)
  | pp (h : k = 12) (m : Nat) (x : List Int) (hl : l = le4 (m : Int) ++ x) (hx : x.length = m + 12)
  | rx (h : k = 11) (a b : ByteArray) (ha : spec_DocPlain.f (a.size + 1) a = some true) (hb : spec_DocPlain.f (b.size + 1) b = some true) (hl : l = bytesOf a ++ [0] ++ bytesOf b ++ [0])
theorem text_form (s : ByteArray) (hs : s.size ≤ 1000000) : spec_docText.f [] s = some (le4 ((s.size + 1 : Nat) : Int) ++ (bytesOf s ++ [0])) := by
  unfold spec_docText.f
  rw [int32_some [] _ (by simp), w64 (by omega) (by omega)]
  have h1 : ([] ++ le4 ((s.size : Int) + 1)).length + s.size < 140737488355328 := by rw [List.length_append, le4_length, List.length_nil]; omega
  have h2 : ([] ++ le4 ((s.size : Int) + 1) ++ bytesOf s).length < 140737488355328 := by rw [List.length_append, bytesOf_length, List.length_append, le4_length, List.length_nil]; omega
  simp only [Option.bind_some, h1, h2, if_true]
  rw [List.nil_append, List.append_assoc]
  rfl
theorem doc_form (l : List Int) (hl : l.length ≤ 1000000) : ((spec_DocInt32.f ([] : List Int) (wrap64 ((l.length : Int) + 5))).bind fun t => (if t.length + l.length < 140737488355328 then ((some (t ++ l : List Int)).bind fun y => (if y.length < 140737488355328 then (some (y ++ [0])) else (none))) else (none))) = some (le4 ((l.length + 5 : Nat) : Int) ++ (l ++ [0])) := by
  rw [int32_some _ _ (by simp), w64 (by omega) (by omega)]
  have h1 : (([] : List Int) ++ le4 ((l.length : Int) + 5)).length + l.length < 140737488355328 := by rw [List.length_append, le4_length, List.length_nil]; omega
  have h2 : (([] : List Int) ++ le4 ((l.length : Int) + 5) ++ l).length < 140737488355328 := by rw [List.length_append, List.length_append, le4_length, List.length_nil]; omega
  simp only [Option.bind_some, h1, h2, if_true]
  rw [List.nil_append, List.append_assoc]
  rfl
/-- More of what a right value is. -/
theorem right_more (d : Nat) (v : S46) (h : docR d v.f0 v.f1 v.f2 v.f3 v.f4 v.f5 v.f6 v.f7 = some true) : (v.f0 = 7 → v.f6.length = 12) ∧ (v.f0 = 12 → v.f6.length = 12) ∧ (v.f0 = 11 → spec_DocPlain.f (v.f1.size + 1) v.f1 = some true ∧ spec_DocPlain.f (v.f2.size + 1) v.f2 = some true) := by
  cases d with
  | zero => cases h
  | succ d =>
    unfold docR at h
    obtain ⟨kn, hkn⟩ := known_ex v.f0
    rw [hkn] at h
    simp only [Option.bind_some] at h
    cases kn with
    | false => simp at h
    | true =>
      rw [if_neg (by decide)] at h
      split at h
      next => cases h
      next =>
        refine ⟨fun hk => ?_, fun hk => ?_, fun hk => ?_⟩
        · rw [hk] at h; simpa using h
        · rw [hk] at h; simpa using h
        · rw [hk] at h
          simp only [show ¬ ((11 : Int) = 5) by decide, show ¬ ((11 : Int) = 7) by decide, show ¬ ((11 : Int) = 12) by decide, show ¬ ((11 : Int) = 8) by decide, show ¬ ((11 : Int) = 16) by decide, if_false, if_true] at h
          obtain ⟨p, hp, h⟩ := Option.bind_eq_some_iff.mp h
          cases p with
          | false => simp at h
          | true => exact ⟨hp, by simpa using h⟩
theorem right_kids (d : Nat) (v : S46) (h : docR d v.f0 v.f1 v.f2 v.f3 v.f4 v.f5 v.f6 v.f7 = some true) (hk : v.f0 = 3 ∨ v.f0 = 4 ∨ v.f0 = 15) : docRL (fun v => docR (d - 1) v.f0 v.f1 v.f2 v.f3 v.f4 v.f5 v.f6 v.f7) (v.f0 == 4) v.f7 0 = some true := by
  cases d with
  | zero => cases h
  | succ d =>
    unfold docR at h
    obtain ⟨kn, hkn⟩ := known_ex v.f0
    rw [hkn] at h
    simp only [Option.bind_some] at h
    cases kn with
    | false => simp at h
    | true =>
      rw [if_neg (by decide)] at h
      split at h
      next => cases h
      next =>
        rcases hk with hk | hk | hk <;> (rw [hk] at h ⊢; simpa using h)
theorem dv_shape (v : S46) (hs1 : v.f1.size ≤ 65536) (hs2 : v.f2.size ≤ 65536) (hs6 : v.f6.length ≤ 65536) (hsum : v.f1.size + v.f2.size + v.f6.length ≤ 65536) (body : List Int) (hbl : body.length ≤ 200000) (hk : Ev (fun k => spec_DocBytes.f k v.f7) (le4 ((body.length + 5 : Nat) : Int) ++ (body ++ [0]))) (hkn : spec_DocKnown.f v.f0 = some true) (hm : (v.f0 = 7 → v.f6.length = 12) ∧ (v.f0 = 12 → v.f6.length = 12) ∧ (v.f0 = 11 → spec_DocPlain.f (v.f1.size + 1) v.f1 = some true ∧ spec_DocPlain.f (v.f2.size + 1) v.f2 = some true)) :
    ∃ l, Ev (fun k => spec_DocValue.f k v.f0 v.f1 v.f2 v.f3 v.f4 v.f5 v.f6 v.f7) l ∧ Shape v.f0 l := by
  obtain ⟨K0, hK0'⟩ := hk
  have hK0 : ∀ k, K0 ≤ k → spec_DocBytes.f k v.f7 = some (le4 ((body.length + 5 : Nat) : Int) ++ (body ++ [0])) := hK0'
  obtain ⟨K1, hK1⟩ := int64_from [] v.f4 (by simp)
  obtain ⟨K2, hK2⟩ := int64_from [] (IntKind.u64.wrap v.f3) (by simp)
  obtain ⟨K3, hK3⟩ := int64_from ([] ++ le8 v.f4) v.f5 (by rw [List.length_append, le8_length]; simp)
  have htx := text_form v.f1 (by omega)
  have i32 := fun n => int32_some [] n (by simp)
  have go : ∀ l, Shape v.f0 l → (∀ k, K0 ≤ k → K1 ≤ k → K2 ≤ k → K3 ≤ k → spec_DocValue.f (k + 5) v.f0 v.f1 v.f2 v.f3 v.f4 v.f5 v.f6 v.f7 = some l) → ∃ l, Ev (fun k => spec_DocValue.f k v.f0 v.f1 v.f2 v.f3 v.f4 v.f5 v.f6 v.f7) l ∧ Shape v.f0 l := by
    intro l hl h
    refine ⟨l, ⟨K0 + K1 + K2 + K3 + 5, fun k hk => ?_⟩, hl⟩
    obtain ⟨q, rfl⟩ : ∃ q, k = q + 5 := ⟨k - 5, by omega⟩
    exact h q (by omega) (by omega) (by omega) (by omega)
  by_cases c1 : v.f0 = 1
  · refine go ([] ++ le8 v.f4) (.w8 (by omega) rfl (le8_wf _)) (fun k h0 h1 h2 h3 => ?_)
    rw [spec_DocValue.f, if_pos c1, c1, spec_DocValue.j0, if_pos (by decide), hK1 _ (by omega)]; rfl
  by_cases c17 : v.f0 = 17
  · refine go ([] ++ le8 v.f4) (.w8 (by omega) rfl (le8_wf _)) (fun k h0 h1 h2 h3 => ?_)
    rw [spec_DocValue.f, if_neg c1, c17, spec_DocValue.j0, if_pos (by decide), hK1 _ (by omega)]; rfl
  by_cases c2 : v.f0 = 2
  · refine go (le4 ((v.f1.size + 1 : Nat) : Int) ++ (bytesOf v.f1 ++ [0])) (.pt (by omega) (v.f1.size + 1) (bytesOf v.f1 ++ [0]) rfl (by simp only [List.length_append, le8_length, le4_length, List.length_nil, List.length_cons, bytesOf_length])) (fun k h0 h1 h2 h3 => ?_)
    rw [spec_DocValue.f, if_neg c1, c2, spec_DocValue.j0, if_neg (by decide), if_pos (by decide), spec_DocValue.j1, if_pos (by decide), htx]; rfl
  by_cases c13 : v.f0 = 13
  · refine go (le4 ((v.f1.size + 1 : Nat) : Int) ++ (bytesOf v.f1 ++ [0])) (.pt (by omega) (v.f1.size + 1) (bytesOf v.f1 ++ [0]) rfl (by simp only [List.length_append, le8_length, le4_length, List.length_nil, List.length_cons, bytesOf_length])) (fun k h0 h1 h2 h3 => ?_)
    rw [spec_DocValue.f, if_neg c1, c13, spec_DocValue.j0, if_neg (by decide), if_neg (by decide), if_pos (by decide), spec_DocValue.j1, if_pos (by decide), htx]; rfl
  by_cases c14 : v.f0 = 14
  · refine go (le4 ((v.f1.size + 1 : Nat) : Int) ++ (bytesOf v.f1 ++ [0])) (.pt (by omega) (v.f1.size + 1) (bytesOf v.f1 ++ [0]) rfl (by simp only [List.length_append, le8_length, le4_length, List.length_nil, List.length_cons, bytesOf_length])) (fun k h0 h1 h2 h3 => ?_)
    rw [spec_DocValue.f, if_neg c1, c14, spec_DocValue.j0, if_neg (by decide), if_neg (by decide), if_neg (by decide), spec_DocValue.j1, if_pos (by decide), htx]; rfl
  by_cases c3 : v.f0 = 3
  · refine go (le4 ((body.length + 5 : Nat) : Int) ++ (body ++ [0])) (.pd (by omega) (body.length + 5) (body ++ [0]) rfl (by simp only [List.length_append, le8_length, le4_length, List.length_nil, List.length_cons, bytesOf_length])) (fun k h0 h1 h2 h3 => ?_)
    rw [spec_DocValue.f, if_neg c1, c3, spec_DocValue.j0, if_neg (by decide), if_neg (by decide), if_neg (by decide), spec_DocValue.j1, if_neg (by decide), if_pos (by decide), spec_DocValue.j2, if_pos (by decide), hK0 _ (by omega)]; rfl
  by_cases c4 : v.f0 = 4
  · refine go (le4 ((body.length + 5 : Nat) : Int) ++ (body ++ [0])) (.pd (by omega) (body.length + 5) (body ++ [0]) rfl (by simp only [List.length_append, le8_length, le4_length, List.length_nil, List.length_cons, bytesOf_length])) (fun k h0 h1 h2 h3 => ?_)
    rw [spec_DocValue.f, if_neg c1, c4, spec_DocValue.j0, if_neg (by decide), if_neg (by decide), if_neg (by decide), spec_DocValue.j1, if_neg (by decide), if_neg (by decide), spec_DocValue.j2, if_pos (by decide), hK0 _ (by omega)]; rfl
  by_cases c5 : v.f0 = 5
  · by_cases c2n : v.f3 = 2
    · refine go (([] ++ le4 (wrap64 ((v.f6.length : Int) + 4))) ++ [2] ++ le4 (v.f6.length : Int) ++ v.f6) (.pb c5 (v.f6.length + 4) ([2] ++ le4 (v.f6.length : Int) ++ v.f6) (by rw [w64 (by omega) (by omega)]; simp only [List.nil_append, List.append_assoc]; rfl) (by simp only [List.length_append, le8_length, le4_length, List.length_nil, List.length_cons, bytesOf_length]; omega)) (fun k h0 h1 h2 h3 => ?_)
      rw [spec_DocValue.f, if_neg c1, c5, spec_DocValue.j0, if_neg (by decide), if_neg (by decide), if_neg (by decide), spec_DocValue.j1, if_neg (by decide), if_neg (by decide), spec_DocValue.j2, if_neg (by decide), if_pos (by decide), if_pos c2n, i32]
      have j1 : (([] : List Int) ++ le4 (wrap64 ((v.f6.length : Int) + 4))).length < 140737488355328 := (by simp only [List.length_append, le8_length, le4_length, List.length_nil, List.length_cons, bytesOf_length]; omega)
      have j2 : (([] : List Int) ++ le4 (wrap64 ((v.f6.length : Int) + 4)) ++ [2]).length ≤ 1000000 := (by simp only [List.length_append, le8_length, le4_length, List.length_nil, List.length_cons, bytesOf_length]; omega)
      have j3 : (([] : List Int) ++ le4 (wrap64 ((v.f6.length : Int) + 4)) ++ [2] ++ le4 (v.f6.length : Int)).length + v.f6.length < 140737488355328 := (by simp only [List.length_append, le8_length, le4_length, List.length_nil, List.length_cons, bytesOf_length]; omega)
      simp only [Option.bind_some, j1, if_true, int32_some _ _ j2, j3]
    · refine go (([] ++ le4 (v.f6.length : Int)) ++ [v.f3 % 256] ++ v.f6) (.pb c5 v.f6.length ([v.f3 % 256] ++ v.f6) (by simp only [List.nil_append, List.append_assoc]) (by simp only [List.length_append, le8_length, le4_length, List.length_nil, List.length_cons, bytesOf_length]; omega)) (fun k h0 h1 h2 h3 => ?_)
      rw [spec_DocValue.f, if_neg c1, c5, spec_DocValue.j0, if_neg (by decide), if_neg (by decide), if_neg (by decide), spec_DocValue.j1, if_neg (by decide), if_neg (by decide), spec_DocValue.j2, if_neg (by decide), if_pos (by decide), if_neg c2n, i32]
      have j1 : (([] : List Int) ++ le4 (v.f6.length : Int)).length < 140737488355328 := (by simp only [List.length_append, le8_length, le4_length, List.length_nil, List.length_cons, bytesOf_length]; omega)
      have j2 : (([] : List Int) ++ le4 (v.f6.length : Int) ++ [v.f3 % 256]).length + v.f6.length < 140737488355328 := (by simp only [List.length_append, le8_length, le4_length, List.length_nil, List.length_cons, bytesOf_length]; omega)
      simp only [Option.bind_some, j1, if_true, j2]
  by_cases c7 : v.f0 = 7
  · refine go ([] ++ v.f6) (.w12 c7 (hm.1 c7)) (fun k h0 h1 h2 h3 => ?_)
    rw [spec_DocValue.f, if_neg c1, c7, spec_DocValue.j0, if_neg (by decide), if_neg (by decide), if_neg (by decide), spec_DocValue.j1, if_neg (by decide), if_neg (by decide), spec_DocValue.j2, if_neg (by decide), if_neg (by decide), if_pos (by decide), if_pos (by simp only [List.length_append, le8_length, le4_length, List.length_nil, List.length_cons, bytesOf_length]; omega)]
  by_cases c8 : v.f0 = 8
  · refine go ([] ++ [v.f3 % 256]) (.w1 c8 rfl) (fun k h0 h1 h2 h3 => ?_)
    rw [spec_DocValue.f, if_neg c1, c8, spec_DocValue.j0, if_neg (by decide), if_neg (by decide), if_neg (by decide), spec_DocValue.j1, if_neg (by decide), if_neg (by decide), spec_DocValue.j2, if_neg (by decide), if_neg (by decide), if_neg (by decide), if_pos (by decide), if_pos (by decide)]
  by_cases c9 : v.f0 = 9
  · refine go ([] ++ le8 (IntKind.u64.wrap v.f3)) (.w8 (by omega) rfl (le8_wf _)) (fun k h0 h1 h2 h3 => ?_)
    rw [spec_DocValue.f, if_neg c1, c9, spec_DocValue.j0, if_neg (by decide), if_neg (by decide), if_neg (by decide), spec_DocValue.j1, if_neg (by decide), if_neg (by decide), spec_DocValue.j2, if_neg (by decide), if_neg (by decide), if_neg (by decide), if_neg (by decide), if_pos (by decide), spec_DocValue.j3, if_pos (by decide), hK2 _ (by omega)]; rfl
  by_cases c18 : v.f0 = 18
  · refine go ([] ++ le8 (IntKind.u64.wrap v.f3)) (.w8 (by omega) rfl (le8_wf _)) (fun k h0 h1 h2 h3 => ?_)
    rw [spec_DocValue.f, if_neg c1, c18, spec_DocValue.j0, if_neg (by decide), if_neg (by decide), if_neg (by decide), spec_DocValue.j1, if_neg (by decide), if_neg (by decide), spec_DocValue.j2, if_neg (by decide), if_neg (by decide), if_neg (by decide), if_neg (by decide), if_neg (by decide), spec_DocValue.j3, if_pos (by decide), hK2 _ (by omega)]; rfl
  by_cases c16 : v.f0 = 16
  · refine go ([] ++ le4 v.f3) (.w4 c16 rfl) (fun k h0 h1 h2 h3 => ?_)
    rw [spec_DocValue.f, if_neg c1, c16, spec_DocValue.j0, if_neg (by decide), if_neg (by decide), if_neg (by decide), spec_DocValue.j1, if_neg (by decide), if_neg (by decide), spec_DocValue.j2, if_neg (by decide), if_neg (by decide), if_neg (by decide), if_neg (by decide), if_neg (by decide), spec_DocValue.j3, if_neg (by decide), if_pos (by decide), i32]; rfl
  by_cases c11 : v.f0 = 11
  · refine go ([] ++ bytesOf v.f1 ++ [0] ++ bytesOf v.f2 ++ [0]) (.rx c11 v.f1 v.f2 (hm.2.2 c11).1 (hm.2.2 c11).2 (by rw [List.nil_append])) (fun k h0 h1 h2 h3 => ?_)
    have j1 : ([] : List Int).length + v.f1.size < 140737488355328 := (by simp only [List.length_append, le8_length, le4_length, List.length_nil, List.length_cons, bytesOf_length]; omega)
    have j2 : (([] : List Int) ++ bytesOf v.f1).length < 140737488355328 := (by simp only [List.length_append, le8_length, le4_length, List.length_nil, List.length_cons, bytesOf_length]; omega)
    have j3 : (([] : List Int) ++ bytesOf v.f1 ++ [0]).length + v.f2.size < 140737488355328 := (by simp only [List.length_append, le8_length, le4_length, List.length_nil, List.length_cons, bytesOf_length]; omega)
    have j4 : (([] : List Int) ++ bytesOf v.f1 ++ [0] ++ bytesOf v.f2).length < 140737488355328 := (by simp only [List.length_append, le8_length, le4_length, List.length_nil, List.length_cons, bytesOf_length]; omega)
    rw [spec_DocValue.f, if_neg c1, c11, spec_DocValue.j0, if_neg (by decide), if_neg (by decide), if_neg (by decide), spec_DocValue.j1, if_neg (by decide), if_neg (by decide), spec_DocValue.j2, if_neg (by decide), if_neg (by decide), if_neg (by decide), if_neg (by decide), if_neg (by decide), spec_DocValue.j3, if_neg (by decide), if_neg (by decide), if_pos (by decide)]
    simp only [Option.bind_some, j1, j2, j3, j4, if_true]
  by_cases c12 : v.f0 = 12
  · have hb := hm.2.1 c12
    refine go (le4 ((v.f1.size + 1 : Nat) : Int) ++ (bytesOf v.f1 ++ [0]) ++ v.f6) (.pp c12 (v.f1.size + 1) (bytesOf v.f1 ++ [0] ++ v.f6) (by simp only [List.append_assoc]) (by simp only [List.length_append, le8_length, le4_length, List.length_nil, List.length_cons, bytesOf_length]; omega)) (fun k h0 h1 h2 h3 => ?_)
    have j1 : (le4 ((v.f1.size + 1 : Nat) : Int) ++ (bytesOf v.f1 ++ [0])).length + v.f6.length < 140737488355328 := (by simp only [List.length_append, le8_length, le4_length, List.length_nil, List.length_cons, bytesOf_length]; omega)
    rw [spec_DocValue.f, if_neg c1, c12, spec_DocValue.j0, if_neg (by decide), if_neg (by decide), if_neg (by decide), spec_DocValue.j1, if_neg (by decide), if_neg (by decide), spec_DocValue.j2, if_neg (by decide), if_neg (by decide), if_neg (by decide), if_neg (by decide), if_neg (by decide), spec_DocValue.j3, if_neg (by decide), if_neg (by decide), if_neg (by decide), if_pos (by decide), htx]
    simp only [Option.bind_some, j1, if_true]
  by_cases c15 : v.f0 = 15
  · have et : (le4 ((v.f1.size + 1 : Nat) : Int) ++ (bytesOf v.f1 ++ [0])).length = v.f1.size + 5 := (by simp only [List.length_append, le8_length, le4_length, List.length_nil, List.length_cons, bytesOf_length]; omega)
    have el : (le4 ((body.length + 5 : Nat) : Int) ++ (body ++ [0])).length = body.length + 5 := (by simp only [List.length_append, le8_length, le4_length, List.length_nil, List.length_cons, bytesOf_length]; omega)
    have e1 : wrap64 ((wrap64 (4 + ((le4 ((v.f1.size + 1 : Nat) : Int) ++ (bytesOf v.f1 ++ [0])).length : Int))) + ((le4 ((body.length + 5 : Nat) : Int) ++ (body ++ [0])).length : Int)) = ((4 + (v.f1.size + 5) + (body.length + 5) : Nat) : Int) := by rw [et, el, w64 (x := 4 + _) (by omega) (by omega), w64 (by omega) (by omega)]; omega
    refine go ([] ++ le4 ((4 + (v.f1.size + 5) + (body.length + 5) : Nat) : Int) ++ (le4 ((v.f1.size + 1 : Nat) : Int) ++ (bytesOf v.f1 ++ [0])) ++ (le4 ((body.length + 5 : Nat) : Int) ++ (body ++ [0]))) (.pd (by omega) (4 + (v.f1.size + 5) + (body.length + 5)) ((le4 ((v.f1.size + 1 : Nat) : Int) ++ (bytesOf v.f1 ++ [0])) ++ (le4 ((body.length + 5 : Nat) : Int) ++ (body ++ [0]))) (by rw [List.nil_append, List.append_assoc]) (by rw [List.length_append, et, el]; omega)) (fun k h0 h1 h2 h3 => ?_)
    have j1 : (([] : List Int) ++ le4 ((4 + (v.f1.size + 5) + (body.length + 5) : Nat) : Int)).length + (le4 ((v.f1.size + 1 : Nat) : Int) ++ (bytesOf v.f1 ++ [0])).length < 140737488355328 := by rw [et, List.length_append, le4_length, List.length_nil]; omega
    have j2 : (([] : List Int) ++ le4 ((4 + (v.f1.size + 5) + (body.length + 5) : Nat) : Int) ++ (le4 ((v.f1.size + 1 : Nat) : Int) ++ (bytesOf v.f1 ++ [0]))).length + (le4 ((body.length + 5 : Nat) : Int) ++ (body ++ [0])).length < 140737488355328 := by rw [el, List.length_append, et, List.length_append, le4_length, List.length_nil]; omega
    rw [spec_DocValue.f, if_neg c1, c15, spec_DocValue.j0, if_neg (by decide), if_neg (by decide), if_neg (by decide), spec_DocValue.j1, if_neg (by decide), if_neg (by decide), spec_DocValue.j2, if_neg (by decide), if_neg (by decide), if_neg (by decide), if_neg (by decide), if_neg (by decide), spec_DocValue.j3, if_neg (by decide), if_neg (by decide), if_neg (by decide), if_neg (by decide), if_pos (by decide), htx, hK0 _ (by omega)]
    simp only [Option.bind_some, e1, i32, j1, j2, if_true]
  by_cases c19 : v.f0 = 19
  · refine go ([] ++ le8 v.f4 ++ le8 v.f5) (.w16 c19 rfl (fun z hz => by rcases List.mem_append.1 hz with h | h; exact le8_wf _ z h; exact le8_wf _ z h)) (fun k h0 h1 h2 h3 => ?_)
    rw [spec_DocValue.f, if_neg c1, c19, spec_DocValue.j0, if_neg (by decide), if_neg (by decide), if_neg (by decide), spec_DocValue.j1, if_neg (by decide), if_neg (by decide), spec_DocValue.j2, if_neg (by decide), if_neg (by decide), if_neg (by decide), if_neg (by decide), if_neg (by decide), spec_DocValue.j3, if_neg (by decide), if_neg (by decide), if_neg (by decide), if_neg (by decide), if_neg (by decide), if_pos (by decide), hK1 _ (by omega)]
    simp only [Option.bind_some, hK3 _ h3]
  have hko : v.f0 = 6 ∨ v.f0 = 10 ∨ v.f0 = 127 ∨ v.f0 = 255 := by
    unfold spec_DocKnown.f at hkn
    (repeat' split at hkn) <;> simp at hkn <;> omega
  refine go [] (.w0 hko rfl) (fun k h0 h1 h2 h3 => ?_)
  rw [spec_DocValue.f, if_neg c1, spec_DocValue.j0, if_neg (fun h => c17 (by simpa using h)), if_neg c2, if_neg c13, spec_DocValue.j1, if_neg (fun h => c14 (by simpa using h)), if_neg c3, spec_DocValue.j2, if_neg (fun h => c4 (by simpa using h)), if_neg c5, if_neg c7, if_neg c8, if_neg c9, spec_DocValue.j3, if_neg (fun h => c18 (by simpa using h)), if_neg c16, if_neg c11, if_neg c12, if_neg c15, if_neg c19]

theorem readI32x (n : Int) (h0 : -2147483648 ≤ n) (h1 : n < 2147483648) (x : List Int) : binaryutil_ReadI32.f (n % 256 :: n / 256 % 256 :: n / 65536 % 256 :: n / 16777216 % 256 :: x) = some (n, x, true) := by
  have w0 : wrap32 (rd (n % 256 :: n / 256 % 256 :: n / 65536 % 256 :: n / 16777216 % 256 :: x) 0) = n % 256 := by show wrap32 (n % 256) = _; unfold wrap32; omega
  have w1 : wrap32 (wrap32 (rd (n % 256 :: n / 256 % 256 :: n / 65536 % 256 :: n / 16777216 % 256 :: x) 1) * 256) = n / 256 % 256 * 256 := by show wrap32 (wrap32 (n / 256 % 256) * 256) = _; unfold wrap32; omega
  have w2 : wrap32 (wrap32 (rd (n % 256 :: n / 256 % 256 :: n / 65536 % 256 :: n / 16777216 % 256 :: x) 2) * 65536) = n / 65536 % 256 * 65536 := by show wrap32 (wrap32 (n / 65536 % 256) * 65536) = _; unfold wrap32; omega
  have w3 : wrap32 (wrap32 (rd (n % 256 :: n / 256 % 256 :: n / 65536 % 256 :: n / 16777216 % 256 :: x) 3) * 16777216) = wrap32 (n / 16777216 % 256 * 16777216) := by show wrap32 (wrap32 (n / 16777216 % 256) * 16777216) = _; unfold wrap32; omega
  have hl : (n % 256 :: n / 256 % 256 :: n / 65536 % 256 :: n / 16777216 % 256 :: x).length = x.length + 4 := rfl
  unfold binaryutil_ReadI32.f
  rw [w0, w1, w2, w3, hl, if_neg (by omega), if_pos (by omega), if_pos (by omega), if_pos (by omega), if_pos (by omega), if_pos (by omega)]
  rw [or_high .i32 8 (by decide) (n % 256) _ (by omega) (by omega) (by omega)]
  rw [wrap_i32', show wrap32 (n % 256 + n / 256 % 256 * 256) = n % 65536 by unfold wrap32; omega]
  rw [or_high .i32 16 (by decide) (n % 65536) _ (by omega) (by omega) (by omega)]
  rw [wrap_i32', show wrap32 (n % 65536 + n / 65536 % 256 * 65536) = n % 16777216 by unfold wrap32; omega]
  rw [or_high .i32 24 (by decide) (n % 16777216) _ (by omega) (by omega) (by unfold wrap32; omega)]
  rw [wrap_i32', show wrap32 (n % 16777216 + wrap32 (n / 16777216 % 256 * 16777216)) = n by unfold wrap32; omega]
  rfl
theorem w32 {x : Int} (h0 : -2147483648 ≤ x) (h1 : x ≤ 2147483647) : wrap32 x = x := by unfold wrap32; omega
theorem readlen (m : Nat) (x : List Int) (hm : m ≤ 1000000) : bsoncore_ReadLength.f (le4 (m : Int) ++ x) = some ((m : Int), x, true) := by
  unfold bsoncore_ReadLength.f
  rw [show binaryutil_ReadI32.f (le4 (m : Int) ++ x) = some ((m : Int), x, true) from readI32x (m : Int) (by omega) (by omega) x]
  simp only [Option.bind_some]
  rw [if_neg (by omega)]
theorem j4_ok (n : Nat) (q : Nat) : bsoncore_valueLength.j4 (q + 1) (n : Int) true = some ((n : Int), true) := by
  rw [bsoncore_valueLength.j4, if_neg (by omega)]
theorem vl_text (k : Int) (h : k = 2 ∨ k = 13 ∨ k = 14) (m : Nat) (x : List Int) (hm : m ≤ 200000) (q : Nat) : bsoncore_valueLength.f (q + 5) (le4 (m : Int) ++ x) k = some (((m + 4 : Nat) : Int), true) := by
  have e := readlen m x (by omega)
  have e2 : wrap32 ((m : Int) + 4) = ((m + 4 : Nat) : Int) := by rw [w32 (by omega) (by omega)]; rfl
  rcases h with rfl | rfl | rfl
  · rw [bsoncore_valueLength.f, if_neg (by decide), if_neg (by decide), bsoncore_valueLength.j0, if_neg (by decide), if_neg (by decide), if_neg (by decide), if_neg (by decide), if_neg (by decide), if_neg (by decide), if_neg (by decide), bsoncore_valueLength.j1, if_neg (by decide), if_neg (by decide), if_neg (by decide), if_neg (by decide), if_pos (by decide), bsoncore_valueLength.j2, if_pos (by decide), e, Option.bind_some, e2, j4_ok]
  · rw [bsoncore_valueLength.f, if_neg (by decide), if_neg (by decide), bsoncore_valueLength.j0, if_neg (by decide), if_neg (by decide), if_neg (by decide), if_neg (by decide), if_neg (by decide), if_neg (by decide), if_neg (by decide), bsoncore_valueLength.j1, if_neg (by decide), if_neg (by decide), if_neg (by decide), if_pos (by decide), bsoncore_valueLength.j2, if_pos (by decide), e, Option.bind_some, e2, j4_ok]
  · rw [bsoncore_valueLength.f, if_neg (by decide), if_neg (by decide), bsoncore_valueLength.j0, if_neg (by decide), if_neg (by decide), if_neg (by decide), if_neg (by decide), if_neg (by decide), if_neg (by decide), if_neg (by decide), bsoncore_valueLength.j1, if_neg (by decide), if_neg (by decide), if_neg (by decide), if_neg (by decide), if_neg (by decide), bsoncore_valueLength.j2, if_pos (by decide), e, Option.bind_some, e2, j4_ok]
theorem vl_doc (k : Int) (h : k = 3 ∨ k = 4 ∨ k = 15) (m : Nat) (x : List Int) (hm : m ≤ 200000) (q : Nat) : bsoncore_valueLength.f (q + 5) (le4 (m : Int) ++ x) k = some ((m : Int), true) := by
  have e := readlen m x (by omega)
  rcases h with rfl | rfl | rfl
  · rw [bsoncore_valueLength.f, if_neg (by decide), if_pos (by decide), bsoncore_valueLength.j0, if_pos (by decide), e, Option.bind_some, j4_ok]
  · rw [bsoncore_valueLength.f, if_pos (by decide), bsoncore_valueLength.j0, if_pos (by decide), e, Option.bind_some, j4_ok]
  · rw [bsoncore_valueLength.f, if_neg (by decide), if_neg (by decide), bsoncore_valueLength.j0, if_pos (by decide), e, Option.bind_some, j4_ok]
theorem vl_bin (m : Nat) (x : List Int) (hm : m ≤ 200000) (q : Nat) : bsoncore_valueLength.f (q + 5) (le4 (m : Int) ++ x) 5 = some (((m + 5 : Nat) : Int), true) := by
  have e := readlen m x (by omega)
  have e2 : wrap32 ((m : Int) + 5) = ((m + 5 : Nat) : Int) := by rw [w32 (by omega) (by omega)]; rfl
  rw [bsoncore_valueLength.f, if_neg (by decide), if_neg (by decide), bsoncore_valueLength.j0, if_neg (by decide), if_pos (by decide), e, Option.bind_some, e2, j4_ok]
theorem vl_ptr (m : Nat) (x : List Int) (hm : m ≤ 200000) (q : Nat) : bsoncore_valueLength.f (q + 5) (le4 (m : Int) ++ x) 12 = some (((m + 16 : Nat) : Int), true) := by
  have e := readlen m x (by omega)
  have e2 : wrap32 ((m : Int) + 16) = ((m + 16 : Nat) : Int) := by rw [w32 (by omega) (by omega)]; rfl
  rw [bsoncore_valueLength.f, if_neg (by decide), if_neg (by decide), bsoncore_valueLength.j0, if_neg (by decide), if_neg (by decide), if_neg (by decide), if_pos (by decide), e, Option.bind_some, e2, j4_ok]
open PL in
theorem plain_nz (s : ByteArray) (hs : s.size ≤ 1000000) (h : spec_DocPlain.f (s.size + 1) s = some true) : ∀ j, j < s.size → s.get! j ≠ 0 := by
  have key : ∀ (k i : Nat), spec_DocPlain.l0 k s (i : Int) = some true → ∀ j, i ≤ j → j < s.size → s.get! j ≠ 0 := by
    intro k
    induction k with
    | zero => intro i h; simp [spec_DocPlain.l0] at h
    | succ k ih =>
      intro i h j hj hjs
      unfold spec_DocPlain.l0 at h
      rw [if_pos (by omega), if_pos (by omega)] at h
      by_cases hz : bt s i = 0
      · rw [if_pos hz] at h; cases h
      · rw [if_neg hz, show wrap64 ((i : Int) + 1) = ((i + 1 : Nat) : Int) by rw [w64 (by omega) (by omega)]; omega] at h
        by_cases hij : i = j
        · subst hij
          intro hc
          exact hz ((bt_zero s (i : Int) (by omega) (by omega)).2 (by rw [Int.toNat_natCast]; exact hc))
        · exact ih (i + 1) h j (by omega) hjs
  intro j hj
  exact key (s.size + 1) 0 h j (by omega) hj
open PL in
theorem idx_plain (a : ByteArray) (hs : a.size ≤ 1000000) (h : spec_DocPlain.f (a.size + 1) a = some true) (r : List Int) : bytes_IndexByte.f (bytesOf a ++ 0 :: r) 0 = some (a.size : Int) := by
  have e : Lib.bytesOf (bytesOf a ++ 0 :: r) = a.data.toList ++ (0 : UInt8) :: Lib.bytesOf r := by
    rw [toNums_append, toNums_bytesOf]
    rfl
  show some (Lib.indexByte (Lib.bytesOf (bytesOf a ++ 0 :: r)) 0) = _
  rw [e, indexByte_at _ _ _ (plain_mem (plain_nz a hs h))]
  simp [data_length]
theorem vl_rx (a b : ByteArray) (ha : spec_DocPlain.f (a.size + 1) a = some true) (hb : spec_DocPlain.f (b.size + 1) b = some true) (hs : a.size + b.size ≤ 200000) (r : List Int) (q : Nat) : bsoncore_valueLength.f (q + 5) (bytesOf a ++ [0] ++ bytesOf b ++ [0] ++ r) 11 = some (((a.size + b.size + 2 : Nat) : Int), true) := by
  have el : bytesOf a ++ [0] ++ bytesOf b ++ [0] ++ r = bytesOf a ++ 0 :: (bytesOf b ++ 0 :: r) := by simp
  have hlen : (bytesOf a ++ 0 :: (bytesOf b ++ 0 :: r)).length = a.size + b.size + 2 + r.length := by simp only [List.length_append, List.length_cons, List.length_nil, bytesOf_length]; omega
  rw [el]
  have i1 := idx_plain a (by omega) ha (bytesOf b ++ 0 :: r)
  have i2 := idx_plain b (by omega) hb r
  have hd : (bytesOf a ++ 0 :: (bytesOf b ++ 0 :: r)).drop (a.size + 1) = bytesOf b ++ 0 :: r := by
    rw [← bytesOf_length a, List.drop_append]
    simp
  generalize hL : bytesOf a ++ 0 :: (bytesOf b ++ 0 :: r) = L at i1 hd hlen ⊢
  clear hL el
  have e1 : wrap64 ((a.size : Int) + 1) = ((a.size + 1 : Nat) : Int) := by rw [w64 (by omega) (by omega)]; rfl
  have e2 : wrap32 (wrap64 ((wrap64 (((a.size + 1 : Nat) : Int) + (b.size : Int))) + 1)) = ((a.size + b.size + 2 : Nat) : Int) := by rw [w64 (x := ((a.size + 1 : Nat) : Int) + (b.size : Int)) (by omega) (by omega), w64 (by omega) (by omega), w32 (by omega) (by omega)]; omega
  rw [bsoncore_valueLength.f, if_neg (by decide), if_neg (by decide), bsoncore_valueLength.j0, if_neg (by decide), if_neg (by decide), if_neg (by decide), if_neg (by decide), if_neg (by decide), if_neg (by decide), if_neg (by decide), bsoncore_valueLength.j1, if_neg (by decide), if_neg (by decide), if_neg (by decide), if_neg (by decide), if_neg (by decide), bsoncore_valueLength.j2, if_neg (by decide), if_neg (by decide), if_neg (by decide), if_neg (by decide), bsoncore_valueLength.j3, if_neg (by decide), if_neg (by decide), if_pos (by decide), i1, Option.bind_some, if_neg (by omega), e1, if_pos (by omega), if_pos (by omega), Int.toNat_natCast, hd, i2, Option.bind_some, if_neg (by omega), e2, j4_ok]
theorem shape_length {k : Int} {l : List Int} (hs : Shape k l) (hl0 : l.length ≤ 200000) (r : List Int) : Ev (fun q => bsoncore_valueLength.f q (l ++ r) k) ((l.length : Int), true) := by
  have go : (∀ q, bsoncore_valueLength.f (q + 5) (l ++ r) k = some ((l.length : Int), true)) → Ev (fun q => bsoncore_valueLength.f q (l ++ r) k) ((l.length : Int), true) := by
    intro h
    refine ⟨5, fun q hq => ?_⟩
    obtain ⟨q, rfl⟩ : ∃ r, q = r + 5 := ⟨q - 5, by omega⟩
    exact h q
  have l4 : ∀ (n : Int) (x : List Int), (le4 n ++ x).length = 4 + x.length := fun n x => by rw [List.length_append, le4_length]
  apply go
  intro q
  cases hs with
  | w8 h hl _ => rw [hl]; rcases h with rfl | rfl | rfl | rfl <;> simp [bsoncore_valueLength.f, bsoncore_valueLength.j0, bsoncore_valueLength.j1, bsoncore_valueLength.j4]
  | w16 h hl _ => rw [hl]; subst h; simp [bsoncore_valueLength.f, bsoncore_valueLength.j0, bsoncore_valueLength.j1, bsoncore_valueLength.j4]
  | w4 h hl => rw [hl]; subst h; simp [bsoncore_valueLength.f, bsoncore_valueLength.j0, bsoncore_valueLength.j1, bsoncore_valueLength.j4]
  | w1 h hl => rw [hl]; subst h; simp [bsoncore_valueLength.f, bsoncore_valueLength.j0, bsoncore_valueLength.j4]
  | w12 h hl => rw [hl]; subst h; simp [bsoncore_valueLength.f, bsoncore_valueLength.j0, bsoncore_valueLength.j1, bsoncore_valueLength.j2, bsoncore_valueLength.j3, bsoncore_valueLength.j4]
  | w0 h hl => rw [hl]; rcases h with rfl | rfl | rfl | rfl <;> simp [bsoncore_valueLength.f, bsoncore_valueLength.j0, bsoncore_valueLength.j1, bsoncore_valueLength.j2, bsoncore_valueLength.j3, bsoncore_valueLength.j4]
  | pt h m x hl hx => subst hl; have e := l4 (m : Int) x; rw [show (le4 (m : Int) ++ x).length = m + 4 by omega, List.append_assoc]; exact vl_text k h m _ (by omega) q
  | pd h m x hl hx => subst hl; have e := l4 (m : Int) x; rw [show (le4 (m : Int) ++ x).length = m by omega, List.append_assoc]; exact vl_doc k h m _ (by omega) q
  | pb h m x hl hx => subst hl; subst h; have e := l4 (m : Int) x; rw [show (le4 (m : Int) ++ x).length = m + 5 by omega, List.append_assoc]; exact vl_bin m _ (by omega) q
  | pp h m x hl hx => subst hl; subst h; have e := l4 (m : Int) x; rw [show (le4 (m : Int) ++ x).length = m + 16 by omega, List.append_assoc]; exact vl_ptr m _ (by omega) q
  | rx h a b ha hb hl =>
    subst h
    have e : l.length = a.size + b.size + 2 := by rw [hl]; simp only [List.length_append, List.length_cons, List.length_nil, bytesOf_length]; omega
    rw [e, hl]
    exact vl_rx a b ha hb (by omega) r q

end Go.Proofs.YtbfhpjkahobgnaaGreatDoor.PLo.VT
