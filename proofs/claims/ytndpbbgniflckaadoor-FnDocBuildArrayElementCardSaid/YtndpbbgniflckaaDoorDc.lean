/- The law of FnDocBuildArrayElement holds of what its code computes: values as bytes make an element that is their array. Conditions: as each theorem states them. -/
import Derived.Test.YtndpbbgniflckaaDoorProg
import Derived.Test.YtndpbbgniflckaaDoorHW
import Derived.Below
import Derived.Deep.Draws
import Derived.OwnWalk
import Derived.Tactics
import Derived.WalkKit
import Derived.KernelRfl
import Derived.RowKit3
import Derived.Deep.LoopGhost
import Derived.Deep.QuietTactic
import Derived.BigQuiet
import Derived.WideLaws
import Derived.Deep.DeepCutAuto
import Derived.Deep.CutBlock
import Derived.Laws.Rows
import Derived.Outline
import Derived.StillTailTactics
import Derived.Deep.RegionHeld3
import Derived.Test.YtndpbbgniflckaaDoorDb
namespace Go.Proofs.YtndpbbgniflckaaDoor.PBa.VT
open Go.RowKit Go.Proofs.YtndpbbgniflckaaDoorW.PrintWords Go.Proofs.YtndpbbgniflckaaDoorW.PrintLast Go.Proofs.YtndpbbgniflckaaDoorW.PrintMore
set_option linter.unusedVariables false
set_option linter.unusedSimpArgs false
/-- What docFine asks. -/
theorem fine_ev (v : S26) (hv : FitV v) : Ev (fun k => laws_docFine.f k v.f0 v.f1 v.f2 v.f3 v.f4 v.f5 v.f6 v.f7) false ∨ ∃ n b, SzV v n b ∧ n ≤ 300 ∧ b ≤ 5000 ∧ Ev (fun k => laws_docFine.f k v.f0 v.f1 v.f2 v.f3 v.f4 v.f5 v.f6 v.f7) true := by
  obtain ⟨c, h1, h2, ev, hsz⟩ := count 300 (by decide) v hv
  have ev' : Ev (fun k => laws_docCount.f k v.f0 v.f1 v.f2 v.f3 v.f4 v.f5 v.f6 v.f7 300) (c : Int) := ev
  by_cases hc : (c : Int) ≤ 300
  · obtain ⟨b, hb⟩ := hsz (by omega)
    obtain ⟨q, hq⟩ := right_some 200 v hv
    have hdr : spec_DocRight.f v.f0 v.f1 v.f2 v.f3 v.f4 v.f5 v.f6 v.f7 = some q := by
      unfold spec_DocRight.f spec_docRight.f
      rw [if_pos (by decide), show (200 : Int).toNat = 200 from rfl, hq]; rfl
    cases q with
    | false =>
      left
      refine Ev.bind ev' ⟨0, fun k _ => ?_⟩
      show (if (c : Int) ≤ 300 then _ else _) = _
      rw [if_pos hc, hdr]; rfl
    | true =>
      have evb := bytes hb hv (by omega)
      by_cases hbb : b ≤ 5000
      · right
        refine ⟨c, b, hb, by omega, hbb, Ev.bind ev' (Ev.congr (f := fun k => (laws_docBytes.f k v.f0 v.f1 v.f2 v.f3 v.f4 v.f5 v.f6 v.f7).bind fun t => some (decide (t ≤ 5000))) (fun k => by rw [if_pos hc, hdr]; rfl) (Ev.bind evb ⟨0, fun k _ => ?_⟩))⟩
        show some (decide ((b : Int) ≤ 5000)) = _
        rw [decide_eq_true (by omega)]
      · left
        refine Ev.bind ev' (Ev.congr (f := fun k => (laws_docBytes.f k v.f0 v.f1 v.f2 v.f3 v.f4 v.f5 v.f6 v.f7).bind fun t => some (decide (t ≤ 5000))) (fun k => by rw [if_pos hc, hdr]; rfl) (Ev.bind evb ⟨0, fun k _ => ?_⟩))
        show some (decide ((b : Int) ≤ 5000)) = _
        rw [decide_eq_false (by omega)]
  · left
    refine Ev.bind ev' ⟨0, fun k _ => ?_⟩
    show (if (c : Int) ≤ 300 then _ else _) = _
    rw [if_neg hc]
theorem raw_ev : ∀ (r : List S26) (ds : List (List Int)) (l0 : List Int) (a1 : ByteArray) (l2 pre : List S26) (acc : List S37) (K : List S31), Vals r ds → l2 = pre ++ r → l2.length ≤ 100000 → acc.length = pre.length →
    Ev (fun k => (laws_docCopy.f l0).bind fun t498 => ((impl_BuildArrayElement.f k t498 a1 (acc ++ raws r ds)).bind fun t501 => ((spec_DocElem.f k a1 4 ⟨#[]⟩ ⟨#[]⟩ 0 0 0 [] K).bind fun t504 => (if (strOfNums l0).size + (strOfNums t504).size ≤ 9223372036854775807 then (some ((strOfNums t501).toList == ((strOfNums l0) ++ (strOfNums t504)).toList)) else (none))))) true →
    Ev (fun k => laws_FnDocBuildArrayElement.l0 k l0 a1 l2 acc (pre.length : Int) 4 ⟨#[]⟩ ⟨#[]⟩ 0 0 0 [] K) true
  | [], [], l0, a1, l2, pre, acc, K, _, he, hM, ha, hres => by
    have e0 : acc ++ raws [] [] = acc := by simp [raws]
    rw [e0] at hres
    refine Ev.step (fun k => ?_) hres
    rw [laws_FnDocBuildArrayElement.l0, if_neg (by rw [he]; simp)]
  | [], _ :: _, _, _, _, _, _, _, h, _, _, _, _ => h.elim
  | _ :: _, [], _, _, _, _, _, _, h, _, _, _, _ => h.elim
  | v :: r, d :: ds, l0, a1, l2, pre, acc, K, ⟨ev, h⟩, he, hM, ha, hres => by
    have hlen : l2.length = pre.length + (r.length + 1) := by rw [he]; simp
    have hv : rd_T26 l2 (pre.length : Int) = v := by rw [he]; exact rdV_at pre r v
    have e1 : acc ++ raws (v :: r) (d :: ds) = (acc ++ [⟨v.f0, d⟩]) ++ raws r ds := by simp [raws]
    rw [e1] at hres
    have ih := raw_ev r ds l0 a1 l2 (pre ++ [v]) (acc ++ [⟨v.f0, d⟩]) K h (by rw [he]; simp) hM (by simp [ha]) hres
    have e2 : wrap64 ((pre.length : Int) + 1) = (((pre ++ [v]).length : Nat) : Int) := by rw [w64 (by omega) (by omega)]; simp
    have evr : Ev (fun k => laws_docRaw.f k v.f0 v.f1 v.f2 v.f3 v.f4 v.f5 v.f6 v.f7) (v.f0, d) := Ev.bind ev (Ev.now _)
    refine Ev.step (f := fun k => (laws_docRaw.f k v.f0 v.f1 v.f2 v.f3 v.f4 v.f5 v.f6 v.f7).bind fun bt => (if acc.length < 4398046511104 then (laws_FnDocBuildArrayElement.l0 k l0 a1 l2 (acc ++ [(⟨bt.1, bt.2⟩ : S37)]) (wrap64 ((pre.length : Int) + 1)) 4 ⟨#[]⟩ ⟨#[]⟩ 0 0 0 [] K) else (none))) (fun k => ?_) ?_
    · rw [laws_FnDocBuildArrayElement.l0, if_pos (by omega), if_pos (by omega), hv]
    · refine Ev.bind evr ?_
      exact Ev.congr (fun k => by rw [if_pos (by omega), e2]) ih
open PL in
theorem plain_nz (s : ByteArray) (hs : s.size ≤ 1000000) (h : spec_DocPlain.f (s.size + 1) s = some true) : ∀ j, j < s.size → s.get! j ≠ 0 := by
  have key : ∀ (k i : Nat), spec_DocPlain.l0 k s (i : Int) = some true → ∀ j, i ≤ j → j < s.size → s.get! j ≠ 0 := by
    intro k
    induction k with
    | zero => intro i h; simp [spec_DocPlain.l0] at h
    | succ k ih =>
      intro i h j hj hjs
      unfold spec_DocPlain.l0 at h
      rw [if_pos (by omega), if_pos (by omega)] at h
      by_cases hz : bt s i = 0
      · rw [if_pos hz] at h; cases h
      · rw [if_neg hz, show wrap64 ((i : Int) + 1) = ((i + 1 : Nat) : Int) by rw [w64 (by omega) (by omega)]; omega] at h
        by_cases hij : i = j
        · subst hij
          intro hc
          exact hz ((bt_zero s (i : Int) (by omega) (by omega)).2 (by rw [Int.toNat_natCast]; exact hc))
        · exact ih (i + 1) h j (by omega) hjs
  intro j hj
  exact key (s.size + 1) 0 h j (by omega) hj
theorem upd_eq (A B : List Int) (v : Nat) (hA : A.length ≤ 1000000) (hv : v ≤ 1000000) : bsoncore_UpdateLength.f (A ++ [0, 0, 0, 0] ++ B) (A.length : Int) (v : Int) = some (A ++ le4 (v : Int) ++ B) := by
  have hl : (A ++ [0, 0, 0, 0] ++ B).length = A.length + B.length + 4 := by simp only [List.length_append, List.length_cons, List.length_nil]; omega
  have e : (v : Int) % 4294967296 = (v : Int) := by omega
  have hp := put4_at A B (v : Int) (by omega) (by omega)
  unfold bsoncore_UpdateLength.f
  rw [if_pos (by omega), if_pos (by omega), Int.toNat_natCast, e, hp]
theorem end_eq (A E : List Int) (hA : A.length ≤ 2000) (hE : E.length ≤ 100000) : (if (A ++ [0, 0, 0, 0] ++ E).length < 140737488355328 then ((some ((A ++ [0, 0, 0, 0] ++ E) ++ [0] : List Int)).bind fun y433 => (if 0 ≤ (A.length : Int) then (if (A.length : Int) ≤ (y433.length : Int) then ((bsoncore_UpdateLength.f y433 (A.length : Int) (wrap32 (((y433.drop ((A.length : Int)).toNat).length : Int)))).bind fun t440 => (some t440)) else (none)) else (none))) else (none)) = some (A ++ le4 ((E.length + 5 : Nat) : Int) ++ (E ++ [0])) := by
  have hl1 : (A ++ [0, 0, 0, 0] ++ E).length < 140737488355328 := by simp only [List.length_append, List.length_cons, List.length_nil]; omega
  have hy : A ++ [0, 0, 0, 0] ++ E ++ [0] = A ++ [0, 0, 0, 0] ++ (E ++ [0]) := List.append_assoc _ _ _
  rw [if_pos hl1, Option.bind_some, hy]
  have hyl : (A ++ [0, 0, 0, 0] ++ (E ++ [0])).length = A.length + E.length + 5 := by simp only [List.length_append, List.length_cons, List.length_nil]; omega
  have hu := upd_eq A (E ++ [0]) (E.length + 5) (by omega) (by omega)
  generalize A ++ [0, 0, 0, 0] ++ (E ++ [0]) = Y at hyl hu ⊢
  have hd : (Y.drop (A.length : Int).toNat).length = E.length + 5 := by rw [Int.toNat_natCast, List.length_drop, hyl]; omega
  have e5 : wrap32 ((E.length + 5 : Nat) : Int) = ((E.length + 5 : Nat) : Int) := by unfold wrap32; omega
  rw [if_pos (by omega), if_pos (by omega), hd, e5, hu, Option.bind_some]
/-- What the program builds. -/
theorem whole_ev (l0 : List Int) (a1 : ByteArray) (r : List S26) (ds : List (List Int)) (h : Vals r ds) (h0 : l0.length ≤ 1000) (h1 : a1.size ≤ 200) (hp : plainText a1 = true) (hr : r.length ≤ 1000) (hE : (els 0 r ds).length ≤ 100000) :
    Ev (fun k => impl_BuildArrayElement.f k l0 a1 (raws r ds)) (l0 ++ (4 :: (bytesOf a1 ++ 0 :: (le4 (((els 0 r ds).length + 5 : Nat) : Int) ++ (els 0 r ds ++ [0]))))) := by
  have hown : impl_own.f l0 = some l0 := by
    unfold impl_own.f
    rw [if_pos (by simp only [List.length_nil]; omega), List.nil_append]
  have hcores : Ev (fun k => impl_cores.f k (raws r ds)) (core r ds) := by
    have hl := raws_length r ds h
    have := cores_ev r ds (raws r ds) [] [] h rfl (by omega) rfl
    exact this
  have hb := bytesOf_length a1
  have hA : (l0 ++ [4] ++ bytesOf a1 ++ [0]).length = l0.length + a1.size + 2 := by simp only [List.length_append, List.length_cons, List.length_nil]; omega
  have hhead : bsoncore_AppendHeader.f l0 4 a1 = some (l0 ++ [4] ++ bytesOf a1 ++ [0]) := by
    unfold bsoncore_AppendHeader.f bsoncore_isValidCString.f bsoncore_AppendType.f
    rw [hp]
    simp only [Option.bind_some, if_true]
    rw [if_pos (by omega), Option.bind_some, if_pos (by simp only [List.length_append, List.length_cons, List.length_nil]; omega)]
    rw [if_pos (by simp only [List.length_append, List.length_cons, List.length_nil]; omega)]
  have e4 : wrap32 ((l0 ++ [4] ++ bytesOf a1 ++ [0]).length : Int) = ((l0 ++ [4] ++ bytesOf a1 ++ [0]).length : Int) := by unfold wrap32; omega
  have hfin : l0 ++ (4 :: (bytesOf a1 ++ 0 :: (le4 (((els 0 r ds).length + 5 : Nat) : Int) ++ (els 0 r ds ++ [0])))) = (l0 ++ [4] ++ bytesOf a1 ++ [0]) ++ le4 (((els 0 r ds).length + 5 : Nat) : Int) ++ (els 0 r ds ++ [0]) := by simp
  rw [hfin]
  generalize l0 ++ [4] ++ bytesOf a1 ++ [0] = A at hA hhead e4 ⊢
  have hres : bsoncore_ReserveLength.f A = some ((A.length : Int), A ++ [0, 0, 0, 0]) := by
    unfold bsoncore_ReserveLength.f
    rw [Option.bind_some, if_pos (by simp only [List.length_cons, List.length_nil]; omega), e4]
  have hc := core_length r ds h
  have hbuild : Ev (fun k => bsoncore_BuildArray.f k A (core r ds)) (A ++ le4 (((els 0 r ds).length + 5 : Nat) : Int) ++ (els 0 r ds ++ [0])) := by
    refine Ev.congr (f := fun k => bsoncore_BuildArray.l0 k (A ++ [0, 0, 0, 0]) (A.length : Int) (core r ds) ((core r ds).length : Int) 0) (fun k => by unfold bsoncore_BuildArray.f; rw [hres]; rfl) ?_
    have hend := end_eq A (els 0 r ds) (by omega) hE
    have := build_ev r ds (core r ds) [] (A ++ [0, 0, 0, 0]) (A.length : Int) _ h rfl (by omega) (by simp only [List.length_append, List.length_cons, List.length_nil]; omega) ⟨0, fun _ _ => hend⟩
    exact this
  refine Ev.congr (f := fun k => (impl_cores.f k (raws r ds)).bind fun t463 => ((bsoncore_BuildArrayElement.f k l0 a1 t463).bind fun t466 => (some t466))) (fun k => by unfold impl_BuildArrayElement.f; rw [hown, Option.bind_some]) ?_
  refine Ev.bind hcores ?_
  have hbe : Ev (fun k => bsoncore_BuildArrayElement.f k l0 a1 (core r ds)) (A ++ le4 (((els 0 r ds).length + 5 : Nat) : Int) ++ (els 0 r ds ++ [0])) := by
    refine Ev.congr (f := fun k => (bsoncore_BuildArray.f k A (core r ds)).bind fun t446 => (some t446)) (fun k => by unfold bsoncore_BuildArrayElement.f; rw [hhead, Option.bind_some]) ?_
    exact Ev.bind hbuild (Ev.now _)
  exact Ev.bind hbe (Ev.now _)
open PL in
theorem holds (l0 : List Int) (a1 : ByteArray) (ha : a1.size ≤ M) (l2 : List S26) (hf : ∀ v, v ∈ l2 → FitV v) : ∃ k, laws_FnDocBuildArrayElement.f k l0 a1 l2 = some true := by
  apply Ev.rounds
  have ha' : a1.size ≤ 140737488351232 := ha
  have out : ∀ (f : Nat → Option Bool), (∀ k, f (k + 1) = some true) → Ev f true := fun f h => ⟨1, fun k hk => by obtain ⟨q, rfl⟩ : ∃ q, k = q + 1 := ⟨k - 1, by omega⟩; exact h q⟩
  have out0 : Ev (fun k => laws_FnDocBuildArrayElement.j0 k l0 a1 l2 true) true := out _ (fun k => by rw [laws_FnDocBuildArrayElement.j0, if_pos rfl])
  by_cases h1 : (l0.length : Int) > 2147483647
  · exact Ev.congr (fun k => by unfold laws_FnDocBuildArrayElement.f; rw [if_pos h1]) out0
  by_cases h2 : (a1.size : Int) > 2147483647
  · exact Ev.congr (fun k => by unfold laws_FnDocBuildArrayElement.f; rw [if_neg h1, if_pos h2]) out0
  by_cases h3 : (l2.length : Int) > 2147483647
  · exact Ev.congr (fun k => by unfold laws_FnDocBuildArrayElement.f; rw [if_neg h1, if_neg h2, decide_eq_true h3]) out0
  refine Ev.congr (f := fun k => laws_FnDocBuildArrayElement.j0 k l0 a1 l2 false) (fun k => by unfold laws_FnDocBuildArrayElement.f; rw [if_neg h1, if_neg h2, decide_eq_false h3]) ?_
  refine Ev.step (fun k => by rw [laws_FnDocBuildArrayElement.j0, if_neg (by decide)]) ?_
  refine Ev.bind (array_ev l2 (by omega)) ?_
  have out1 : Ev (fun k => laws_FnDocBuildArrayElement.j1 k l0 a1 l2 true 4 ⟨#[]⟩ ⟨#[]⟩ 0 0 0 [] (kidsFrom 0 l2)) true := out _ (fun k => by rw [laws_FnDocBuildArrayElement.j1, if_pos rfl])
  by_cases h4 : (l0.length : Int) > 1000
  · exact Ev.congr (fun k => by rw [if_pos h4]) out1
  by_cases h5 : (a1.size : Int) > 200
  · exact Ev.congr (fun k => by rw [if_neg h4, if_pos h5]) out1
  refine Ev.congr (fun k => by rw [if_neg h4, if_neg h5]) ?_
  obtain ⟨p, hp⟩ := plain_some a1 ha
  have evp : Ev (fun k => spec_DocPlain.f k a1) p := Ev.of (fun k => spec_DocPlain.mono _ _) hp
  refine Ev.bind evp ?_
  cases p with
  | false => exact Ev.congr (fun k => by rw [if_neg (by decide)]) out1
  | true =>
  refine Ev.congr (fun k => by rw [if_pos rfl]) ?_
  have hkl := kids_length l2 0
  have hv : FitV ⟨4, ⟨#[]⟩, ⟨#[]⟩, 0, 0, 0, [], kidsFrom 0 l2⟩ := by
    refine FitV.mk _ (show (Lit.int .i64 4).wf = true by decide) (Nat.zero_le _) (Nat.zero_le _) (show (Lit.int .i64 0).wf = true by decide) (show (Lit.int .u64 0).wf = true by decide) (show (Lit.int .u64 0).wf = true by decide) (Nat.zero_le _) (fun x hx => by cases hx) ?_ (fun e he => ?_) (fun e he => hf _ (kids_mem l2 0 e he).1)
    · show (kidsFrom 0 l2).length ≤ 140737488351232
      omega
    · have := (kids_mem l2 0 e he).2
      show e.f0.size ≤ 140737488351232
      omega
  rcases fine_ev _ hv with hff | ⟨n, b, hsz, hn, hb, hff⟩
  · exact Ev.bind hff out1
  refine Ev.bind hff ?_
  obtain ⟨n', b', hsl, hn', hb'⟩ : ∃ n' b', SzL (kidsFrom 0 l2) n' b' ∧ n' ≤ n ∧ b' ≤ b := by
    cases hsz with
    | mk _ n b hs => exact ⟨n, b, hs, by omega, by omega⟩
  obtain ⟨ds, hvals, hE⟩ := vals l2 0 n' b' hsl (by omega) (by omega) hf
  have hcount : ∀ (r : List S31) (n b : Nat), SzL r n b → r.length ≤ n := by
    intro r
    induction r with
    | nil => intro n b _; exact Nat.zero_le _
    | cons e r ih =>
      intro n b hs
      cases hs with
      | cons _ _ n1 b1 n2 b2 hx hr =>
        have := ih n2 b2 hr
        have := SzL.pos hx
        simp only [List.length_cons]
        omega
  have hl2 : l2.length ≤ 300 := by have := hcount _ _ _ hsl; omega
  have hplain : plainText a1 = true := plainText_true.2 (plain_nz a1 (by omega) hp)
  refine Ev.step (fun k => by show laws_FnDocBuildArrayElement.j1 (k + 1) l0 a1 l2 false 4 ⟨#[]⟩ ⟨#[]⟩ 0 0 0 [] (kidsFrom 0 l2) = _; rw [laws_FnDocBuildArrayElement.j1, if_neg (by decide)]) ?_
  have hcopy : laws_docCopy.f l0 = some l0 := by
    unfold laws_docCopy.f
    rw [Option.bind_some, if_pos (by simp only [List.length_nil]; omega), List.nil_append]
  have hw := whole_ev l0 a1 l2 ds hvals (by omega) (by omega) hplain (by omega) (by omega)
  have hspec := spec_ev l2 ds (kidsFrom 0 l2) [] [] hvals rfl (by omega) (by simp only [List.length_nil]; omega)
  have hbytes : Ev (fun k => spec_DocBytes.f k (kidsFrom 0 l2)) (le4 (((els 0 l2 ds).length + 5 : Nat) : Int) ++ (els 0 l2 ds ++ [0])) := Ev.step (fun k => by rw [spec_DocBytes.f]; rfl) hspec
  have hvalue : Ev (fun k => spec_DocValue.f k 4 ⟨#[]⟩ ⟨#[]⟩ 0 0 0 [] (kidsFrom 0 l2)) (le4 (((els 0 l2 ds).length + 5 : Nat) : Int) ++ (els 0 l2 ds ++ [0])) := by
    obtain ⟨K0, hK0⟩ := hbytes
    refine ⟨K0 + 5, fun k hk => ?_⟩
    obtain ⟨q, rfl⟩ : ∃ q, k = q + 5 := ⟨k - 5, by omega⟩
    show spec_DocValue.f (q + 5) _ _ _ _ _ _ _ _ = _
    rw [spec_DocValue.f, if_neg (by decide), spec_DocValue.j0, if_neg (by decide), if_neg (by decide), if_neg (by decide), spec_DocValue.j1, if_neg (by decide), if_neg (by decide), spec_DocValue.j2, if_pos (by decide)]
    exact (congrArg (fun o => Option.bind o fun t => some t) (hK0 _ (by omega))).trans rfl
  have hb2 := bytesOf_length a1
  have hhd : spec_DocHead.f 4 a1 = some ([4] ++ bytesOf a1 ++ [0]) := by
    unfold spec_DocHead.f
    have y1 : ([4 % 256] : List Int).length + a1.size < 140737488355328 := by simp only [List.length_cons, List.length_nil]; omega
    have y2 : ([4 % 256] ++ bytesOf a1 : List Int).length < 140737488355328 := by rw [List.length_append, bytesOf_length]; simp only [List.length_cons, List.length_nil]; omega
    simp only [Option.bind_some, y1, y2, if_true]
    rfl
  generalize els 0 l2 ds = E at hE hw hvalue
  have hEl : (le4 ((E.length + 5 : Nat) : Int) ++ (E ++ [0])).length = E.length + 5 := by simp only [List.length_append, le4_length, List.length_cons, List.length_nil]; omega
  have helem : Ev (fun k => spec_DocElem.f k a1 4 ⟨#[]⟩ ⟨#[]⟩ 0 0 0 [] (kidsFrom 0 l2)) (4 :: (bytesOf a1 ++ 0 :: (le4 ((E.length + 5 : Nat) : Int) ++ (E ++ [0])))) := by
    refine Ev.step (f := fun k => (spec_DocValue.f k 4 ⟨#[]⟩ ⟨#[]⟩ 0 0 0 [] (kidsFrom 0 l2)).bind fun t => (if ([4] ++ bytesOf a1 ++ [0] : List Int).length + t.length < 140737488355328 then (some ([4] ++ bytesOf a1 ++ [0] ++ t)) else (none))) (fun k => by rw [spec_DocElem.f, hhd]; rfl) ?_
    refine Ev.bind hvalue (Ev.congr (fun k => ?_) (Ev.now _))
    rw [if_pos (by rw [hEl]; simp only [List.length_append, List.length_cons, List.length_nil]; omega)]
    simp
  have hz : (0 : Int) = ((([] : List S26).length : Nat) : Int) := rfl
  have := raw_ev l2 ds l0 a1 l2 [] [] (kidsFrom 0 l2) hvals rfl (by omega) rfl ?_
  · exact this
  refine Ev.congr (fun k => by rw [hcopy, Option.bind_some, List.nil_append]) ?_
  refine Ev.bind hw ?_
  refine Ev.bind helem ⟨0, fun k _ => ?_⟩
  have hs1 := strOfNums_size l0
  have hs2 := strOfNums_size (4 :: (bytesOf a1 ++ 0 :: (le4 ((E.length + 5 : Nat) : Int) ++ (E ++ [0]))))
  have hs3 : (4 :: (bytesOf a1 ++ 0 :: (le4 ((E.length + 5 : Nat) : Int) ++ (E ++ [0])))).length = a1.size + E.length + 7 := by simp only [List.length_cons, List.length_append, le4_length, List.length_nil]; omega
  show (if (strOfNums l0).size + (strOfNums (4 :: (bytesOf a1 ++ 0 :: (le4 ((E.length + 5 : Nat) : Int) ++ (E ++ [0]))))).size ≤ 9223372036854775807 then _ else none) = _
  rw [if_pos (by omega), strOfNums_append, beq_self_eq_true]

end Go.Proofs.YtndpbbgniflckaaDoor.PBa.VT
