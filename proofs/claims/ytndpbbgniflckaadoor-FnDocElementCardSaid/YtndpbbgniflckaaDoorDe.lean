/- The law of FnDocElement holds of what its code computes: an element's bytes tell its name and its value. Conditions: as each theorem states them. -/
import Derived.Test.YtndpbbgniflckaaDoorProg
import Derived.Test.YtndpbbgniflckaaDoorHW
import Derived.Below
import Derived.Deep.Draws
import Derived.OwnWalk
import Derived.Tactics
import Derived.WalkKit
import Derived.KernelRfl
import Derived.RowKit3
import Derived.Deep.LoopGhost
import Derived.Deep.QuietTactic
import Derived.BigQuiet
import Derived.WideLaws
import Derived.Deep.DeepCutAuto
import Derived.Deep.CutBlock
import Derived.Laws.Rows
import Derived.Outline
import Derived.StillTailTactics
import Derived.Deep.RegionHeld3
import Derived.Test.YtndpbbgniflckaaDoorSh
import Derived.Test.YtndpbbgniflckaaDoorPElx11
namespace Go.Proofs.YtndpbbgniflckaaDoor.PEl.VT
open Go.RowKit Go.Proofs.YtndpbbgniflckaaDoorW.PrintWords Go.Proofs.YtndpbbgniflckaaDoorW.PrintLast Go.Proofs.YtndpbbgniflckaaDoorW.PrintMore
set_option linter.unusedVariables false
set_option linter.unusedSimpArgs false
theorem Ev.uniq_ {α : Type} {g : Nat → Option α} {r s : α} (h : Ev g r) (k : Ev g s) : r = s := by
  obtain ⟨K, h⟩ := h
  obtain ⟨K', k⟩ := k
  have a := h (max K K') (by omega)
  have b := k (max K K') (by omega)
  exact Option.some.inj (a.symm.trans b)
theorem kids_form : ∀ (r : List S31) (n b : Nat), SzL r n b → n ≤ 1000 → b ≤ 65536 → (∀ e, e ∈ r → FitV e.f1) → ∀ (K pre : List S31) (acc : List Int), K = pre ++ r → K.length ≤ M → acc.length + b + 24 * n ≤ 100000 →
    ∃ body, Ev (fun k => spec_DocBytes.l0 k K acc (pre.length : Int)) (le4 ((body.length + 5 : Nat) : Int) ++ (body ++ [0])) ∧ body.length ≤ acc.length + b + 24 * n := by
  intro r
  induction r with
  | nil =>
    intro n b hs hn hb hk K pre acc he hM ha
    refine ⟨acc, ⟨1, fun k hk => ?_⟩, by omega⟩
    obtain ⟨k, rfl⟩ : ∃ q, k = q + 1 := ⟨k - 1, by omega⟩
    show spec_DocBytes.l0 (k + 1) _ _ _ = _
    rw [spec_DocBytes.l0, if_neg (by rw [he]; simp)]
    exact doc_form acc (by omega)
  | cons e r ihr =>
    intro n b hs hn hb hk K pre acc he hM ha
    cases hs with
    | cons _ _ n1 b1 n' b' h1 hr =>
    have hM' : K.length ≤ 140737488351232 := hM
    have hlen : K.length = pre.length + (r.length + 1) := by rw [he]; simp
    have he' : rd_T31 K (pre.length : Int) = e := by rw [he]; exact rd_at pre r e
    obtain ⟨lv, ev1, hl1⟩ := value h1 (hk e (by simp)) (by omega) (by omega)
    obtain ⟨hd, hhd, hhl⟩ := head_some e.f1.f0 e.f0 (by omega)
    obtain ⟨l, ev2, hl2⟩ := ihr n' b' hr (by omega) (by omega) (fun x hx => hk x (by simp [hx])) K (pre ++ [e]) (acc ++ (hd ++ lv)) (by rw [he]; simp) hM (by simp only [List.length_append]; omega)
    refine ⟨l, ?_, by simp only [List.length_append] at hl2; omega⟩
    have hsum : hd.length + lv.length < 140737488355328 := by omega
    have evE : Ev (fun k => spec_DocElem.f k e.f0 e.f1.f0 e.f1.f1 e.f1.f2 e.f1.f3 e.f1.f4 e.f1.f5 e.f1.f6 e.f1.f7) (hd ++ lv) := by
      refine Ev.step (f := fun k => (spec_DocValue.f k e.f1.f0 e.f1.f1 e.f1.f2 e.f1.f3 e.f1.f4 e.f1.f5 e.f1.f6 e.f1.f7).bind fun t300 => (if hd.length + t300.length < 140737488355328 then (some (hd ++ t300)) else (none))) (fun k => by rw [spec_DocElem.f, hhd]; rfl) ?_
      refine Ev.bind ev1 ?_
      exact Ev.congr (fun k => by rw [if_pos hsum]) (Ev.now _)
    refine Ev.step (f := fun k => (spec_DocElem.f k e.f0 e.f1.f0 e.f1.f1 e.f1.f2 e.f1.f3 e.f1.f4 e.f1.f5 e.f1.f6 e.f1.f7).bind fun t => (if acc.length + t.length < 140737488355328 then (spec_DocBytes.l0 k K (acc ++ t) (wrap64 ((pre.length : Int) + 1))) else (none))) (fun k => ?_) ?_
    · rw [spec_DocBytes.l0, if_pos (by omega), if_pos (by omega), he']
    · refine Ev.bind evE ?_
      have e2 : wrap64 ((pre.length : Int) + 1) = (((pre ++ [e]).length : Nat) : Int) := by rw [w64 (by omega) (by omega)]; simp
      exact Ev.congr (fun k => by rw [if_pos (by simp only [List.length_append]; omega), e2]) ev2
/-- What a right value is written as has its kind's shape. -/
theorem shape_value {v : S26} {n b : Nat} (h : SzV v n b) (hv : FitV v) (hn : n ≤ 1000) (hb : b ≤ 65536) (hkn : spec_DocKnown.f v.f0 = some true) (hm : (v.f0 = 7 → v.f6.length = 12) ∧ (v.f0 = 12 → v.f6.length = 12) ∧ (v.f0 = 11 → spec_DocPlain.f (v.f1.size + 1) v.f1 = some true ∧ spec_DocPlain.f (v.f2.size + 1) v.f2 = some true)) :
    ∃ l, Ev (fun k => spec_DocValue.f k v.f0 v.f1 v.f2 v.f3 v.f4 v.f5 v.f6 v.f7) l ∧ Shape v.f0 l ∧ l.length ≤ 100000 := by
  obtain ⟨l', ev', hl'⟩ := value h hv hn hb
  cases h with
  | mk _ n b hs =>
  obtain ⟨body, ev, hl⟩ := kids_form v.f7 n b hs (by omega) (by omega) hv.kid v.f7 [] [] rfl hv.kids (by simp only [List.length_nil]; omega)
  simp only [List.length_nil] at hl
  have evB : Ev (fun k => spec_DocBytes.f k v.f7) (le4 ((body.length + 5 : Nat) : Int) ++ (body ++ [0])) := Ev.step (fun k => by rw [spec_DocBytes.f]; rfl) ev
  obtain ⟨l, h1, h2⟩ := dv_shape v (by omega) (by omega) (by omega) (by omega) body (by omega) evB hkn hm
  have := Ev.uniq_ h1 ev'
  subst this
  exact ⟨l, h1, h2, by omega⟩
/-- What docFine asks. -/
theorem fine_ev (v : S26) (hv : FitV v) : Ev (fun k => laws_docFine.f k v.f0 v.f1 v.f2 v.f3 v.f4 v.f5 v.f6 v.f7) false ∨ ∃ n b, SzV v n b ∧ n ≤ 300 ∧ b ≤ 5000 ∧ docR 200 v.f0 v.f1 v.f2 v.f3 v.f4 v.f5 v.f6 v.f7 = some true ∧ Ev (fun k => laws_docFine.f k v.f0 v.f1 v.f2 v.f3 v.f4 v.f5 v.f6 v.f7) true := by
  obtain ⟨c, h1, h2, ev, hsz⟩ := count 300 (by decide) v hv
  have ev' : Ev (fun k => laws_docCount.f k v.f0 v.f1 v.f2 v.f3 v.f4 v.f5 v.f6 v.f7 300) (c : Int) := ev
  by_cases hc : (c : Int) ≤ 300
  · obtain ⟨b, hb⟩ := hsz (by omega)
    obtain ⟨q, hq⟩ := right_some 200 v hv
    have hdr : spec_DocRight.f v.f0 v.f1 v.f2 v.f3 v.f4 v.f5 v.f6 v.f7 = some q := by
      unfold spec_DocRight.f spec_docRight.f
      rw [if_pos (by decide), show (200 : Int).toNat = 200 from rfl, hq]; rfl
    cases q with
    | false =>
      left
      refine Ev.bind ev' ⟨0, fun k _ => ?_⟩
      show (if (c : Int) ≤ 300 then _ else _) = _
      rw [if_pos hc, hdr]; rfl
    | true =>
      have evb := bytes hb hv (by omega)
      by_cases hbb : b ≤ 5000
      · right
        refine ⟨c, b, hb, by omega, hbb, hq, Ev.bind ev' (Ev.congr (f := fun k => (laws_docBytes.f k v.f0 v.f1 v.f2 v.f3 v.f4 v.f5 v.f6 v.f7).bind fun t => some (decide (t ≤ 5000))) (fun k => by rw [if_pos hc, hdr]; rfl) (Ev.bind evb ⟨0, fun k _ => ?_⟩))⟩
        show some (decide ((b : Int) ≤ 5000)) = _
        rw [decide_eq_true (by omega)]
      · left
        refine Ev.bind ev' (Ev.congr (f := fun k => (laws_docBytes.f k v.f0 v.f1 v.f2 v.f3 v.f4 v.f5 v.f6 v.f7).bind fun t => some (decide (t ≤ 5000))) (fun k => by rw [if_pos hc, hdr]; rfl) (Ev.bind evb ⟨0, fun k _ => ?_⟩))
        show some (decide ((b : Int) ≤ 5000)) = _
        rw [decide_eq_false (by omega)]
  · left
    refine Ev.bind ev' ⟨0, fun k _ => ?_⟩
    show (if (c : Int) ≤ 300 then _ else _) = _
    rw [if_neg hc]
/-- A right value's bytes are read as the value. -/
theorem read_value {k : Int} {l : List Int} (hs : Shape k l) (hl0 : l.length ≤ 200000) : Ev (fun q => bsoncore_ReadValue.f q l k) (k, l, [], true) := by
  have e1 : Ev (fun q => bsoncore_readValue.f q l k) (l, [], true) := by
    refine Ev.bind (shape_length hs hl0) ⟨1, fun q hq => ?_⟩
    obtain ⟨q, rfl⟩ : ∃ r, q = r + 1 := ⟨q - 1, by omega⟩
    show (if true = true then bsoncore_readValue.j0 (q + 1) l (l.length : Int) (decide (wrap64 (l.length : Int) > (l.length : Int))) else _) = _
    rw [if_pos rfl, w64 (by omega) (by omega), decide_eq_false (by omega), bsoncore_readValue.j0, if_neg (by decide), if_pos (by omega), if_pos (by omega), Int.toNat_natCast, List.take_length, List.drop_length]
  refine Ev.bind e1 ⟨0, fun q _ => ?_⟩
  rfl
theorem known_range {k : Int} (h : spec_DocKnown.f k = some true) : 1 ≤ k ∧ k ≤ 255 := by
  unfold spec_DocKnown.f at h
  (repeat' split at h) <;> simp at h <;> omega
theorem index_no (l : List UInt8) (c : UInt8) (h : ∀ x ∈ l, x ≠ c) : Lib.indexByte l c = -1 := by
  induction l with
  | nil => rfl
  | cons b l ih =>
    have hb : b ≠ c := h b (by simp)
    have := ih (fun x hx => h x (by simp [hx]))
    simp [Lib.indexByte, hb, this]
open PL in
theorem same_list (l : List Int) : ((strOfNums l).toList == (strOfNums l).toList) = true := beq_self_eq_true _
section
variable (a : ByteArray) (lv : List Int) (k : Int)
/-- An element's bytes. -/
def elemBytes : List Int := k :: (bytesOf a ++ 0 :: lv)
theorem eb_length : (elemBytes a lv k).length = a.size + lv.length + 2 := by
  simp only [elemBytes, List.length_cons, List.length_append, bytesOf_length]
  omega
theorem eb_name : ((elemBytes a lv k).take (a.size + 1)).drop 1 = bytesOf a := by
  show ((k :: (bytesOf a ++ 0 :: lv)).take (a.size + 1)).drop 1 = bytesOf a
  rw [List.take_succ_cons, List.drop_succ_cons, List.drop_zero, ← bytesOf_length a, List.take_left']
  rfl
theorem eb_rest : (elemBytes a lv k).drop (a.size + 2) = lv := by
  show (k :: (bytesOf a ++ 0 :: lv)).drop (a.size + 2) = lv
  rw [List.drop_succ_cons, ← bytesOf_length a, List.drop_append]
  simp
theorem eb_index (hs : a.size ≤ 1000000) (hp : spec_DocPlain.f (a.size + 1) a = some true) : Lib.indexByte (Lib.bytesOf ((elemBytes a lv k).drop 1)) 0 = (a.size : Int) := by
  have := idx_plain a hs hp lv
  exact Option.some.inj this
theorem eb_ok (hs : a.size ≤ 1000) (hl : lv.length ≤ 100000) (hp : spec_DocPlain.f (a.size + 1) a = some true) : elemOk (elemBytes a lv k) = true := by
  have hi := eb_index a lv k (by omega) hp
  have hlen := eb_length a lv k
  simp only [elemOk, Bool.and_eq_true, decide_eq_true_eq, hi, hlen]
  refine ⟨⟨by omega, by omega⟩, by omega⟩
theorem eb_elemName (hs : a.size ≤ 1000) (hp : spec_DocPlain.f (a.size + 1) a = some true) : elemName (elemBytes a lv k) = bytesOf a := by
  unfold elemName
  rw [eb_index a lv k (by omega) hp, Int.toNat_natCast]
  exact eb_name a lv k
theorem eb_take : (bytesOf a ++ [0]).take a.size = bytesOf a := by
  rw [← bytesOf_length a]
  exact List.take_left
theorem eb_j0 (hs : a.size ≤ 1000) (q : Nat) : bsoncore_Element_CompareKey.j0 (q + 1) (elemBytes a lv k) (bytesOf a) (a.size : Int) = some true := by
  have hlen := eb_length a lv k
  have hn := eb_name a lv k
  generalize elemBytes a lv k = L at hlen hn ⊢
  rw [bsoncore_Element_CompareKey.j0, w64 (by omega) (by omega), if_pos (by omega), if_pos (by omega), show ((a.size : Int) + 1).toNat = a.size + 1 by omega, hn]
  generalize bytesOf a = x
  unfold bytes_Equal.f
  rw [Option.bind_some, same_list]
open PL in
theorem eb_f (hs : a.size ≤ 1000) (hl : lv.length ≤ 100000) (hp : spec_DocPlain.f (a.size + 1) a = some true) (nm : List Int) (hnm : nm = bytesOf a ∨ nm = bytesOf a ++ [0]) (q : Nat) : bsoncore_Element_CompareKey.f (q + 1) (elemBytes a lv k) nm = some true := by
  have hlen := eb_length a lv k
  have hi : bytes_IndexByte.f ((elemBytes a lv k).drop 1) 0 = some (a.size : Int) := idx_plain a (by omega) hp lv
  have hj := eb_j0 a lv k hs q
  have h0 : bytes_IndexByte.f (bytesOf a) 0 = some (-1) := by
    have e : Lib.indexByte (Lib.bytesOf (bytesOf a)) 0 = -1 := by rw [toNums_bytesOf, index_no _ _ (plain_mem (plain_nz a (by omega) hp))]
    exact congrArg some e
  have h1 : bytes_IndexByte.f (bytesOf a ++ [0]) 0 = some (a.size : Int) := idx_plain a (by omega) hp []
  have hl2 : (bytesOf a ++ [0]).length = a.size + 1 := by rw [List.length_append, bytesOf_length]; rfl
  have ht := eb_take a
  generalize elemBytes a lv k = L at hlen hi hj ⊢
  generalize bytesOf a ++ [0] = y at hnm h1 hl2 ht
  generalize bytesOf a = x at hnm h0 ht hj
  unfold bsoncore_Element_CompareKey.f
  rw [if_neg (by omega), if_pos (by omega), hi, Option.bind_some, if_neg (by omega)]
  rcases hnm with rfl | rfl
  · rw [h0, Option.bind_some, if_neg (by decide)]
    exact hj
  · rw [h1, Option.bind_some, if_pos (by omega), if_pos (by omega), if_pos (by omega), Int.toNat_natCast, ht]
    exact hj
theorem eb_compare (hs : a.size ≤ 1000) (hl : lv.length ≤ 100000) (hp : spec_DocPlain.f (a.size + 1) a = some true) (nm : List Int) (hnm : nm = bytesOf a ∨ nm = bytesOf a ++ [0]) : Ev (fun q => impl_CompareKey.f q (elemBytes a lv k) nm) true := by
  refine ⟨1, fun q hq => ?_⟩
  obtain ⟨q, rfl⟩ : ∃ r, q = r + 1 := ⟨q - 1, by omega⟩
  show impl_CompareKey.f (q + 1) (elemBytes a lv k) nm = some true
  unfold impl_CompareKey.f
  rw [eb_f a lv k hs hl hp nm hnm q, Option.bind_some]
end
open PL in
theorem holds (a : ByteArray) (ha : a.size ≤ M) (v : S26) (hv : FitV v) : ∃ k, laws_FnDocElement.f k a v.f0 v.f1 v.f2 v.f3 v.f4 v.f5 v.f6 v.f7 = some true := by
  apply Ev.rounds
  have ha' : a.size ≤ 140737488351232 := ha
  have out : ∀ (f : Nat → Option Bool), (∀ k, f (k + 1) = some true) → Ev f true := fun f h => ⟨1, fun k hk => by obtain ⟨q, rfl⟩ : ∃ q, k = q + 1 := ⟨k - 1, by omega⟩; exact h q⟩
  have out0 : Ev (fun k => laws_FnDocElement.j0 k a true v.f0 v.f1 v.f2 v.f3 v.f4 v.f5 v.f6 v.f7) true := out _ (fun k => by rw [laws_FnDocElement.j0, if_pos rfl])
  have out1 : Ev (fun k => laws_FnDocElement.j1 k a true v.f0 v.f1 v.f2 v.f3 v.f4 v.f5 v.f6 v.f7) true := out _ (fun k => by rw [laws_FnDocElement.j1, if_pos rfl])
  by_cases h1 : (a.size : Int) > 2147483647
  · exact Ev.congr (fun k => by unfold laws_FnDocElement.f; rw [if_pos h1]) out0
  obtain ⟨z, hz⟩ : ∃ z, laws_zzFits1.f v.f0 v.f1 v.f2 v.f3 v.f4 v.f5 v.f6 v.f7 = some z := by
    unfold laws_zzFits1.f
    (repeat' split) <;> exact ⟨_, rfl⟩
  refine Ev.congr (f := fun k => laws_FnDocElement.j0 k a (!z) v.f0 v.f1 v.f2 v.f3 v.f4 v.f5 v.f6 v.f7) (fun k => by unfold laws_FnDocElement.f; rw [if_neg h1, hz]; rfl) ?_
  cases z with
  | false => exact out0
  | true =>
  by_cases h2 : (a.size : Int) > 1000
  · exact Ev.step (f := fun k => laws_FnDocElement.j1 k a true v.f0 v.f1 v.f2 v.f3 v.f4 v.f5 v.f6 v.f7) (fun k => by show laws_FnDocElement.j0 (k + 1) a false v.f0 v.f1 v.f2 v.f3 v.f4 v.f5 v.f6 v.f7 = _; rw [laws_FnDocElement.j0, if_neg (by decide), if_pos h2]) out1
  obtain ⟨p, hp⟩ := plain_some a ha
  have evp : Ev (fun k => spec_DocPlain.f k a) p := Ev.of (fun k => spec_DocPlain.mono _ _) hp
  refine Ev.step (f := fun k => (spec_DocPlain.f k a).bind fun t451 => (if t451 = true then ((laws_docFine.f k v.f0 v.f1 v.f2 v.f3 v.f4 v.f5 v.f6 v.f7).bind fun t452 => (laws_FnDocElement.j1 k a (!t452) v.f0 v.f1 v.f2 v.f3 v.f4 v.f5 v.f6 v.f7)) else (laws_FnDocElement.j1 k a true v.f0 v.f1 v.f2 v.f3 v.f4 v.f5 v.f6 v.f7))) (fun k => by show laws_FnDocElement.j0 (k + 1) a false v.f0 v.f1 v.f2 v.f3 v.f4 v.f5 v.f6 v.f7 = _; rw [laws_FnDocElement.j0, if_neg (by decide), if_neg h2]) ?_
  refine Ev.bind evp ?_
  cases p with
  | false => exact Ev.congr (fun k => by rw [if_neg (by decide)]) out1
  | true =>
  refine Ev.congr (f := fun k => (laws_docFine.f k v.f0 v.f1 v.f2 v.f3 v.f4 v.f5 v.f6 v.f7).bind fun t452 => (laws_FnDocElement.j1 k a (!t452) v.f0 v.f1 v.f2 v.f3 v.f4 v.f5 v.f6 v.f7)) (fun k => by rw [if_pos rfl]) ?_
  rcases fine_ev v hv with hf | ⟨n, b, hsz, hn, hb, hr, hf⟩
  · exact Ev.bind hf out1
  refine Ev.bind hf ?_
  obtain ⟨hkn, _⟩ := right_top 200 v hr
  obtain ⟨lv, evl, hsh, hll⟩ := shape_value hsz hv (by omega) (by omega) hkn (right_more 200 v hr)
  have hmod := known_mod hkn
  obtain ⟨hk0, hk1⟩ := known_range hkn
  have hsa : a.size ≤ 1000 := by omega
  have hhd : spec_DocHead.f v.f0 a = some ([v.f0] ++ bytesOf a ++ [0]) := by
    unfold spec_DocHead.f
    have y1 : ([v.f0] : List Int).length + a.size < 140737488355328 := by simp only [List.length_cons, List.length_nil]; omega
    have y2 : ([v.f0] ++ bytesOf a : List Int).length < 140737488355328 := by rw [List.length_append, bytesOf_length]; simp only [List.length_cons, List.length_nil]; omega
    rw [hmod]
    simp only [Option.bind_some, y1, y2, if_true]
  have evE : Ev (fun k => spec_DocElem.f k a v.f0 v.f1 v.f2 v.f3 v.f4 v.f5 v.f6 v.f7) (elemBytes a lv v.f0) := by
    refine Ev.step (f := fun k => (spec_DocValue.f k v.f0 v.f1 v.f2 v.f3 v.f4 v.f5 v.f6 v.f7).bind fun t300 => (if ([v.f0] ++ bytesOf a ++ [0] : List Int).length + t300.length < 140737488355328 then (some ([v.f0] ++ bytesOf a ++ [0] ++ t300)) else (none))) (fun k => by rw [spec_DocElem.f, hhd]; rfl) ?_
    refine Ev.bind evl ?_
    refine Ev.congr (fun k => ?_) (Ev.now _)
    rw [if_pos (by simp only [List.length_append, bytesOf_length, List.length_cons, List.length_nil]; omega)]
    simp [elemBytes]
  have hok := eb_ok a lv v.f0 hsa hll hp
  have hkey : impl_ElementKey.f (elemBytes a lv v.f0) = some (a, 0) := by
    unfold impl_ElementKey.f
    rw [if_pos hok, eb_elemName a lv v.f0 hsa hp, strOfNums_bytesOf]
  have hkb : impl_ElementKeyBytes.f (elemBytes a lv v.f0) = some (bytesOf a, 0) := by
    unfold impl_ElementKeyBytes.f
    rw [if_pos hok, eb_elemName a lv v.f0 hsa hp]
  have hrd : rd (elemBytes a lv v.f0) 0 = v.f0 := rfl
  have hw : wrap64 v.f0 = v.f0 := w64 (by omega) (by omega)
  have hraw : impl_raw.f v.f0 lv = some (wrap64 v.f0, lv) := by
    unfold impl_raw.f impl_own.f
    rw [if_pos (by simp only [List.length_nil]; omega)]
    rfl
  have evv : Ev (fun k => impl_ElementValue.f k (elemBytes a lv v.f0)) (v.f0, lv, 0) := by
    refine Ev.congr (f := fun k => (bsoncore_ReadValue.f k lv v.f0).bind fun t => if t.1 = v.f0 ∧ t.2.2.2 = true then (impl_raw.f t.1 t.2.1).bind fun u => if u.1 = wrap64 t.1 ∧ u.2 = t.2.1 then some (u.1, u.2, 0) else none else none) (fun k => ?_) ?_
    · unfold impl_ElementValue.f
      rw [if_pos hok, eb_index a lv v.f0 (by omega) hp, Int.toNat_natCast, eb_rest, hrd]
    · refine Ev.bind (read_value hsh (by omega)) ⟨0, fun k _ => ?_⟩
      show (if v.f0 = v.f0 ∧ true = true then (impl_raw.f v.f0 lv).bind _ else none) = _
      rw [if_pos ⟨rfl, rfl⟩, hraw]
      show (if wrap64 v.f0 = wrap64 v.f0 ∧ lv = lv then some (wrap64 v.f0, lv, (0 : Int)) else none) = _
      rw [if_pos ⟨rfl, rfl⟩, hw]
  have evc1 := eb_compare a lv v.f0 hsa hll hp (bytesOf a) (Or.inl rfl)
  have evc2 := eb_compare a lv v.f0 hsa hll hp (bytesOf a ++ [0]) (Or.inr rfl)
  have hsame : laws_docSameRaw.f v.f0 lv v.f0 lv = some true := by
    unfold laws_docSameRaw.f
    rw [if_pos rfl, same_list]
  refine Ev.step (fun k => by show laws_FnDocElement.j1 (k + 1) a false v.f0 v.f1 v.f2 v.f3 v.f4 v.f5 v.f6 v.f7 = _; rw [laws_FnDocElement.j1, if_neg (by decide)]) ?_
  refine Ev.bind evE ?_
  refine Ev.congr (fun k => by rw [hkey, Option.bind_some, hkb, Option.bind_some]) ?_
  refine Ev.bind evv ?_
  refine Ev.congr (fun k => by rw [if_pos rfl, if_pos rfl, if_pos rfl, if_pos rfl, if_pos (by rw [strOfNums_bytesOf])]) ?_
  refine Ev.bind evl ?_
  refine Ev.congr (fun k => by rw [hsame, Option.bind_some, if_pos rfl, if_pos (by omega)]) ?_
  refine Ev.bind evc1 ?_
  have hl2 : (bytesOf a).length + ([0] : List Int).length < 140737488355328 := by rw [bytesOf_length]; simp only [List.length_cons, List.length_nil]; omega
  refine Ev.congr (fun k => by rw [if_pos rfl, Option.bind_some, Option.bind_some, if_pos hl2]) ?_
  exact Ev.bind evc2 (Ev.now _)

end Go.Proofs.YtndpbbgniflckaaDoor.PEl.VT
