/- Plain laws on the told functions of this seat, without memory. Conditions: as each theorem states them. -/
import Derived.Test.YtbfhpjkahobgnaaGreatDoorProg
import Derived.Test.YtbfhpjkahobgnaaGreatDoorHW
import Derived.Below
import Derived.Deep.Draws
import Derived.OwnWalk
import Derived.Tactics
import Derived.WalkKit
import Derived.KernelRfl
import Derived.RowKit3
import Derived.Deep.LoopGhost
import Derived.Deep.QuietTactic
import Derived.BigQuiet
import Derived.WideLaws
import Derived.Deep.DeepCutAuto
import Derived.Deep.CutBlock
import Derived.Laws.Rows
import Derived.Outline
import Derived.StillTailTactics
import Derived.Deep.RegionHeld3
import Derived.Test.YtbfhpjkahobgnaaGreatDoorLs
namespace Go.Proofs.YtbfhpjkahobgnaaGreatDoor.PLo.VT
open Go.RowKit Go.Proofs.YtbfhpjkahobgnaaGreatDoorW.PrintWords Go.Proofs.YtbfhpjkahobgnaaGreatDoorW.PrintLast Go.Proofs.YtbfhpjkahobgnaaGreatDoorW.PrintMore
set_option linter.unusedVariables false
set_option linter.unusedSimpArgs false
theorem Ev.uniq_ {α : Type} {g : Nat → Option α} {r s : α} (h : Ev g r) (k : Ev g s) : r = s := by
  obtain ⟨K, h⟩ := h
  obtain ⟨K', k⟩ := k
  have a := h (max K K') (by omega)
  have b := k (max K K') (by omega)
  exact Option.some.inj (a.symm.trans b)
theorem kids_form : ∀ (r : List S73) (n b : Nat), SzL r n b → n ≤ 1000 → b ≤ 65536 → (∀ e, e ∈ r → FitV e.f1) → ∀ (K pre : List S73) (acc : List Int), K = pre ++ r → K.length ≤ M → acc.length + b + 24 * n ≤ 100000 →
    ∃ body, Ev (fun k => spec_DocBytes.l0 k K acc (pre.length : Int)) (le4 ((body.length + 5 : Nat) : Int) ++ (body ++ [0])) ∧ body.length ≤ acc.length + b + 24 * n := by
  intro r
  induction r with
  | nil =>
    intro n b hs hn hb hk K pre acc he hM ha
    refine ⟨acc, ⟨1, fun k hk => ?_⟩, by omega⟩
    obtain ⟨k, rfl⟩ : ∃ q, k = q + 1 := ⟨k - 1, by omega⟩
    show spec_DocBytes.l0 (k + 1) _ _ _ = _
    rw [spec_DocBytes.l0, if_neg (by rw [he]; simp)]
    exact doc_form acc (by omega)
  | cons e r ihr =>
    intro n b hs hn hb hk K pre acc he hM ha
    cases hs with
    | cons _ _ n1 b1 n' b' h1 hr =>
    have hM' : K.length ≤ 140737488351232 := hM
    have hlen : K.length = pre.length + (r.length + 1) := by rw [he]; simp
    have he' : rd_T73 K (pre.length : Int) = e := by rw [he]; exact rd_at pre r e
    obtain ⟨lv, ev1, hl1⟩ := value h1 (hk e (by simp)) (by omega) (by omega)
    obtain ⟨hd, hhd, hhl⟩ := head_some e.f1.f0 e.f0 (by omega)
    obtain ⟨l, ev2, hl2⟩ := ihr n' b' hr (by omega) (by omega) (fun x hx => hk x (by simp [hx])) K (pre ++ [e]) (acc ++ (hd ++ lv)) (by rw [he]; simp) hM (by simp only [List.length_append]; omega)
    refine ⟨l, ?_, by simp only [List.length_append] at hl2; omega⟩
    have hsum : hd.length + lv.length < 140737488355328 := by omega
    have evE : Ev (fun k => spec_DocElem.f k e.f0 e.f1.f0 e.f1.f1 e.f1.f2 e.f1.f3 e.f1.f4 e.f1.f5 e.f1.f6 e.f1.f7) (hd ++ lv) := by
      refine Ev.step (f := fun k => (spec_DocValue.f k e.f1.f0 e.f1.f1 e.f1.f2 e.f1.f3 e.f1.f4 e.f1.f5 e.f1.f6 e.f1.f7).bind fun t300 => (if hd.length + t300.length < 140737488355328 then (some (hd ++ t300)) else (none))) (fun k => by rw [spec_DocElem.f, hhd]; rfl) ?_
      refine Ev.bind ev1 ?_
      exact Ev.congr (fun k => by rw [if_pos hsum]) (Ev.now _)
    refine Ev.step (f := fun k => (spec_DocElem.f k e.f0 e.f1.f0 e.f1.f1 e.f1.f2 e.f1.f3 e.f1.f4 e.f1.f5 e.f1.f6 e.f1.f7).bind fun t => (if acc.length + t.length < 140737488355328 then (spec_DocBytes.l0 k K (acc ++ t) (wrap64 ((pre.length : Int) + 1))) else (none))) (fun k => ?_) ?_
    · rw [spec_DocBytes.l0, if_pos (by omega), if_pos (by omega), he']
    · refine Ev.bind evE ?_
      have e2 : wrap64 ((pre.length : Int) + 1) = (((pre ++ [e]).length : Nat) : Int) := by rw [w64 (by omega) (by omega)]; simp
      exact Ev.congr (fun k => by rw [if_pos (by simp only [List.length_append]; omega), e2]) ev2
/-- What a right value is written as has its kind's shape. -/
theorem shape_value {v : S46} {n b : Nat} (h : SzV v n b) (hv : FitV v) (hn : n ≤ 1000) (hb : b ≤ 65536) (hkn : spec_DocKnown.f v.f0 = some true) (hm : (v.f0 = 7 → v.f6.length = 12) ∧ (v.f0 = 12 → v.f6.length = 12) ∧ (v.f0 = 11 → spec_DocPlain.f (v.f1.size + 1) v.f1 = some true ∧ spec_DocPlain.f (v.f2.size + 1) v.f2 = some true)) :
    ∃ l, Ev (fun k => spec_DocValue.f k v.f0 v.f1 v.f2 v.f3 v.f4 v.f5 v.f6 v.f7) l ∧ Shape v.f0 l ∧ l.length ≤ 100000 := by
  obtain ⟨l', ev', hl'⟩ := value h hv hn hb
  cases h with
  | mk _ n b hs =>
  obtain ⟨body, ev, hl⟩ := kids_form v.f7 n b hs (by omega) (by omega) hv.kid v.f7 [] [] rfl hv.kids (by simp only [List.length_nil]; omega)
  simp only [List.length_nil] at hl
  have evB : Ev (fun k => spec_DocBytes.f k v.f7) (le4 ((body.length + 5 : Nat) : Int) ++ (body ++ [0])) := Ev.step (fun k => by rw [spec_DocBytes.f]; rfl) ev
  obtain ⟨l, h1, h2⟩ := dv_shape v (by omega) (by omega) (by omega) (by omega) body (by omega) evB hkn hm
  have := Ev.uniq_ h1 ev'
  subst this
  exact ⟨l, h1, h2, by omega⟩
/-- What docFine asks. -/
theorem fine_ev (v : S46) (hv : FitV v) : Ev (fun k => laws_docFine.f k v.f0 v.f1 v.f2 v.f3 v.f4 v.f5 v.f6 v.f7) false ∨ ∃ n b, SzV v n b ∧ n ≤ 300 ∧ b ≤ 5000 ∧ docR 200 v.f0 v.f1 v.f2 v.f3 v.f4 v.f5 v.f6 v.f7 = some true ∧ Ev (fun k => laws_docFine.f k v.f0 v.f1 v.f2 v.f3 v.f4 v.f5 v.f6 v.f7) true := by
  obtain ⟨c, h1, h2, ev, hsz⟩ := count 300 (by decide) v hv
  have ev' : Ev (fun k => laws_docCount.f k v.f0 v.f1 v.f2 v.f3 v.f4 v.f5 v.f6 v.f7 300) (c : Int) := ev
  by_cases hc : (c : Int) ≤ 300
  · obtain ⟨b, hb⟩ := hsz (by omega)
    obtain ⟨q, hq⟩ := right_some 200 v hv
    have hdr : spec_DocRight.f v.f0 v.f1 v.f2 v.f3 v.f4 v.f5 v.f6 v.f7 = some q := by
      unfold spec_DocRight.f spec_docRight.f
      rw [if_pos (by decide), show (200 : Int).toNat = 200 from rfl, hq]; rfl
    cases q with
    | false =>
      left
      refine Ev.bind ev' ⟨0, fun k _ => ?_⟩
      show (if (c : Int) ≤ 300 then _ else _) = _
      rw [if_pos hc, hdr]; rfl
    | true =>
      have evb := bytes hb hv (by omega)
      by_cases hbb : b ≤ 5000
      · right
        refine ⟨c, b, hb, by omega, hbb, hq, Ev.bind ev' (Ev.congr (f := fun k => (laws_docBytes.f k v.f0 v.f1 v.f2 v.f3 v.f4 v.f5 v.f6 v.f7).bind fun t => some (decide (t ≤ 5000))) (fun k => by rw [if_pos hc, hdr]; rfl) (Ev.bind evb ⟨0, fun k _ => ?_⟩))⟩
        show some (decide ((b : Int) ≤ 5000)) = _
        rw [decide_eq_true (by omega)]
      · left
        refine Ev.bind ev' (Ev.congr (f := fun k => (laws_docBytes.f k v.f0 v.f1 v.f2 v.f3 v.f4 v.f5 v.f6 v.f7).bind fun t => some (decide (t ≤ 5000))) (fun k => by rw [if_pos hc, hdr]; rfl) (Ev.bind evb ⟨0, fun k _ => ?_⟩))
        show some (decide ((b : Int) ≤ 5000)) = _
        rw [decide_eq_false (by omega)]
  · left
    refine Ev.bind ev' ⟨0, fun k _ => ?_⟩
    show (if (c : Int) ≤ 300 then _ else _) = _
    rw [if_neg hc]
theorem known_range {k : Int} (h : spec_DocKnown.f k = some true) : 1 ≤ k ∧ k ≤ 255 := by
  unfold spec_DocKnown.f at h
  (repeat' split at h) <;> simp at h <;> omega

open PL in
theorem same_list (l : List Int) : ((strOfNums l).toList == (strOfNums l).toList) = true := beq_self_eq_true _
section
variable (a : ByteArray) (lv : List Int) (k : Int)
/-- An element's bytes. -/
def elemBytes : List Int := k :: (bytesOf a ++ 0 :: lv)
theorem eb_length : (elemBytes a lv k).length = a.size + lv.length + 2 := by
  simp only [elemBytes, List.length_cons, List.length_append, bytesOf_length]
  omega
theorem eb_name : ((elemBytes a lv k).take (a.size + 1)).drop 1 = bytesOf a := by
  show ((k :: (bytesOf a ++ 0 :: lv)).take (a.size + 1)).drop 1 = bytesOf a
  rw [List.take_succ_cons, List.drop_succ_cons, List.drop_zero, ← bytesOf_length a, List.take_left']
  rfl
theorem eb_rest : (elemBytes a lv k).drop (a.size + 2) = lv := by
  show (k :: (bytesOf a ++ 0 :: lv)).drop (a.size + 2) = lv
  rw [List.drop_succ_cons, ← bytesOf_length a, List.drop_append]
  simp
end

/-- What the elements of a right document are written as. -/
inductive Wr : List S73 → List Int → Prop
  | nil : Wr [] []
  | cons (e : S73) (r : List S73) (lv body : List Int) (hp : spec_DocPlain.f (e.f0.size + 1) e.f0 = some true) (hs : e.f0.size ≤ 65536) (hk0 : 1 ≤ e.f1.f0) (hk1 : e.f1.f0 ≤ 255) (ev : Ev (fun k => spec_DocValue.f k e.f1.f0 e.f1.f1 e.f1.f2 e.f1.f3 e.f1.f4 e.f1.f5 e.f1.f6 e.f1.f7) lv) (hsh : Shape e.f1.f0 lv) (hr : Wr r body) : Wr (e :: r) (elemBytes e.f0 lv e.f1.f0 ++ body)
/-- A document's bytes by its elements' bytes. -/
def docOf (body : List Int) : List Int := le4 ((body.length + 5 : Nat) : Int) ++ (body ++ [0])
theorem docOf_length (body : List Int) : (docOf body).length = body.length + 5 := by
  unfold docOf; rw [List.length_append, le4_length, List.length_append]; simp only [List.length_cons, List.length_nil]; omega
theorem elem_written (e : S73) (lv : List Int) (hs : e.f0.size ≤ 65536) (hk0 : 1 ≤ e.f1.f0) (hk1 : e.f1.f0 ≤ 255) (hl : lv.length ≤ 1000000) (ev : Ev (fun k => spec_DocValue.f k e.f1.f0 e.f1.f1 e.f1.f2 e.f1.f3 e.f1.f4 e.f1.f5 e.f1.f6 e.f1.f7) lv) : Ev (fun k => spec_DocElem.f k e.f0 e.f1.f0 e.f1.f1 e.f1.f2 e.f1.f3 e.f1.f4 e.f1.f5 e.f1.f6 e.f1.f7) (elemBytes e.f0 lv e.f1.f0) := by
  have hhd : spec_DocHead.f e.f1.f0 e.f0 = some ([e.f1.f0] ++ bytesOf e.f0 ++ [0]) := by
    unfold spec_DocHead.f
    have y1 : ([e.f1.f0] : List Int).length + e.f0.size < 140737488355328 := by simp only [List.length_cons, List.length_nil]; omega
    have y2 : ([e.f1.f0] ++ bytesOf e.f0 : List Int).length < 140737488355328 := by rw [List.length_append, bytesOf_length]; simp only [List.length_cons, List.length_nil]; omega
    rw [show e.f1.f0 % 256 = e.f1.f0 by omega]
    simp only [Option.bind_some, y1, y2, if_true]
  refine Ev.step (f := fun k => (spec_DocValue.f k e.f1.f0 e.f1.f1 e.f1.f2 e.f1.f3 e.f1.f4 e.f1.f5 e.f1.f6 e.f1.f7).bind fun t300 => (if ([e.f1.f0] ++ bytesOf e.f0 ++ [0] : List Int).length + t300.length < 140737488355328 then (some ([e.f1.f0] ++ bytesOf e.f0 ++ [0] ++ t300)) else (none))) (fun k => by rw [spec_DocElem.f, hhd]; rfl) ?_
  refine Ev.bind ev ?_
  refine Ev.congr (fun k => ?_) (Ev.now _)
  rw [if_pos (by simp only [List.length_append, bytesOf_length, List.length_cons, List.length_nil]; omega)]
  simp [elemBytes]
theorem wr_l0 {r : List S73} {body : List Int} (h : Wr r body) : ∀ (K pre : List S73) (acc : List Int), K = pre ++ r → K.length ≤ M → acc.length + body.length ≤ 1000000 → Ev (fun k => spec_DocBytes.l0 k K acc (pre.length : Int)) (docOf (acc ++ body)) := by
  induction h with
  | nil =>
    intro K pre acc he hM ha
    refine ⟨1, fun k hk => ?_⟩
    obtain ⟨k, rfl⟩ : ∃ q, k = q + 1 := ⟨k - 1, by omega⟩
    show spec_DocBytes.l0 (k + 1) _ _ _ = _
    rw [spec_DocBytes.l0, if_neg (by rw [he]; simp), List.append_nil]
    exact doc_form acc (by omega)
  | cons e r lv body hp hs hk0 hk1 ev hsh hr ih =>
    intro K pre acc he hM ha
    have hM' : K.length ≤ 140737488351232 := hM
    have hlen : K.length = pre.length + (r.length + 1) := by rw [he]; simp
    have he' : rd_T73 K (pre.length : Int) = e := by rw [he]; exact rd_at pre r e
    have hel := eb_length e.f0 lv e.f1.f0
    rw [List.length_append] at ha
    have ev2 := ih K (pre ++ [e]) (acc ++ elemBytes e.f0 lv e.f1.f0) (by rw [he]; simp) hM (by rw [List.length_append]; omega)
    have evE := elem_written e lv hs hk0 hk1 (by omega) ev
    generalize elemBytes e.f0 lv e.f1.f0 = E at ha ev2 evE hel ⊢
    rw [← List.append_assoc]
    refine Ev.step (f := fun k => (spec_DocElem.f k e.f0 e.f1.f0 e.f1.f1 e.f1.f2 e.f1.f3 e.f1.f4 e.f1.f5 e.f1.f6 e.f1.f7).bind fun t => (if acc.length + t.length < 140737488355328 then (spec_DocBytes.l0 k K (acc ++ t) (wrap64 ((pre.length : Int) + 1))) else (none))) (fun k => ?_) ?_
    · rw [spec_DocBytes.l0, if_pos (by omega), if_pos (by omega), he']
    · refine Ev.bind evE ?_
      have e2 : wrap64 ((pre.length : Int) + 1) = (((pre ++ [e]).length : Nat) : Int) := by rw [w64 (by omega) (by omega)]; simp
      exact Ev.congr (fun k => by rw [if_pos (by omega), e2]) ev2
theorem wr_doc {r : List S73} {body : List Int} (h : Wr r body) (hM : r.length ≤ M) (hb : body.length ≤ 1000000) : Ev (fun k => spec_DocBytes.f k r) (docOf body) :=
  Ev.step (fun k => by rw [spec_DocBytes.f]; rfl) (wr_l0 h r [] [] rfl hM (by simpa using hb))
theorem dv_doc (k0 : Int) (h : k0 = 3) (t m : ByteArray) (n b hh : Int) (B : List Int) (K : List S73) (l : List Int) (ev : Ev (fun k => spec_DocBytes.f k K) l) : Ev (fun k => spec_DocValue.f k k0 t m n b hh B K) l := by
  subst h
  refine Ev.step (f := fun k => spec_DocValue.j0 k [] 3 ((3 : Int) == 17) 3 t m n b hh B K) (fun k => by rw [spec_DocValue.f, if_neg (by decide)]) ?_
  refine Ev.step (f := fun k => spec_DocValue.j1 k [] 3 ((3 : Int) == 14) 3 t m n b hh B K) (fun k => by rw [spec_DocValue.j0, if_neg (by decide), if_neg (by decide), if_neg (by decide)]) ?_
  refine Ev.step (f := fun k => spec_DocValue.j2 k [] 3 ((3 : Int) == 3) 3 t m n b hh B K) (fun k => by rw [spec_DocValue.j1, if_neg (by decide), if_pos rfl]) ?_
  refine Ev.step (f := fun k => (spec_DocBytes.f k K).bind fun t => some t) (fun k => by rw [spec_DocValue.j2, if_pos (by decide)]) ?_
  exact Ev.bind ev (Ev.now _)
/-- The elements of a right document are written. -/
theorem wr_of (d : Nat) (arr : Bool) : ∀ (r : List S73) (n b : Nat) (i : Int), SzL r n b → n ≤ 1000 → b ≤ 65536 → (∀ e, e ∈ r → FitV e.f1) → docRL (fun v => docR d v.f0 v.f1 v.f2 v.f3 v.f4 v.f5 v.f6 v.f7) arr r i = some true → ∃ body, Wr r body ∧ body.length ≤ b + 24 * n := by
  intro r
  induction r with
  | nil => intro n b i hs hn hb hk h; exact ⟨[], .nil, by simp⟩
  | cons e r ih =>
    intro n b i hs hn hb hk h
    cases hs with
    | cons _ _ n1 b1 n' b' h1 hr =>
    rw [docRL] at h
    obtain ⟨o, ho, h⟩ := Option.bind_eq_some_iff.1 h
    have hot : o = true := by cases o with | true => rfl | false => simp at h
    rw [hot, if_neg (by decide)] at h
    obtain ⟨q, hq, h⟩ := Option.bind_eq_some_iff.1 h
    have hqt : q = true := by cases q with | true => rfl | false => simp at h
    rw [hqt, if_neg (by decide)] at h
    rw [hot] at ho
    rw [hqt] at hq
    unfold nameOk at ho
    obtain ⟨p, hp, ho⟩ := Option.bind_eq_some_iff.1 ho
    have hpt : p = true := by cases p with | true => rfl | false => simp at ho
    rw [hpt] at hp
    obtain ⟨body, hw, hbl⟩ := ih n' b' (i + 1) hr (by omega) (by omega) (fun x hx => hk x (by simp [hx])) h
    have hv := hk e (by simp)
    obtain ⟨hkn, _⟩ := right_top d e.f1 hq
    obtain ⟨lv, evl, hsh, hll⟩ := shape_value h1 hv (by omega) (by omega) hkn (right_more d e.f1 hq)
    obtain ⟨l', ev', hl'⟩ := value h1 hv (by omega) (by omega)
    have := Ev.uniq_ evl ev'
    subst this
    obtain ⟨hk0, hk1⟩ := known_range hkn
    refine ⟨_, Wr.cons e r lv body hp (by omega) hk0 hk1 evl hsh hw, ?_⟩
    rw [List.length_append, eb_length]
    omega
theorem szl_len : ∀ {r : List S73} {n b : Nat}, SzL r n b → r.length ≤ n := by
  intro r
  induction r with
  | nil => intro n b h; cases h; simp
  | cons e r ih =>
    intro n b h
    cases h with
    | cons _ _ n1 b1 n' b' h1 hr =>
    have := ih hr
    have := SzL.pos h1
    simp only [List.length_cons]; omega


/-- An element that stands ahead of more bytes is read. -/
theorem rd_name (a : ByteArray) (lv : List Int) (k : Int) (R : List Int) (j : Nat) (hj : j < a.size) : rd (elemBytes a lv k ++ R) ((j + 1 : Nat) : Int) = ((a.get! j).toNat : Int) := by
  have e : elemBytes a lv k ++ R = k :: (bytesOf a ++ (0 :: lv ++ R)) := by simp [elemBytes]
  have e3 := PL.bt_get a (j : Int) (by omega) (by omega)
  rw [Int.toNat_natCast] at e3
  rw [← e3, ← rd_bytesOf, e]
  unfold rd
  rw [Int.toNat_natCast, Int.toNat_natCast, List.getD_cons_succ, List.getD_eq_getElem?_getD, List.getD_eq_getElem?_getD, List.getElem?_append_left (by rw [bytesOf_length]; exact hj)]
theorem rd_zero (a : ByteArray) (lv : List Int) (k : Int) (R : List Int) : rd (elemBytes a lv k ++ R) ((a.size + 1 : Nat) : Int) = 0 := by
  have e : elemBytes a lv k ++ R = k :: (bytesOf a ++ (0 :: lv ++ R)) := by simp [elemBytes]
  rw [e]
  unfold rd
  rw [Int.toNat_natCast, List.getD_cons_succ, List.getD_eq_getElem?_getD, List.getElem?_append_right (by rw [bytesOf_length]; exact Nat.le_refl _), bytesOf_length, Nat.sub_self]
  rfl
theorem eb_rest2 (a : ByteArray) (lv : List Int) (k : Int) (R : List Int) : (elemBytes a lv k ++ R).drop (a.size + 2) = lv ++ R := by
  rw [List.drop_append_of_le_length (by rw [eb_length]; omega), eb_rest]
theorem read_end {a : ByteArray} {lv : List Int} {k : Int} (hp : spec_DocPlain.f (a.size + 1) a = some true) (hs : a.size ≤ 65536) (hsh : Shape k lv) (hl : lv.length ≤ 200000) (R : List Int) (hR : R.length ≤ 1000000) : Ev (fun q => bsoncore_ReadElement.l0 q (elemBytes a lv k ++ R) k ((a.size + 1 : Nat) : Int)) (elemBytes a lv k, R, true) := by
  have hlen := eb_length a lv k
  have hz := rd_zero a lv k R
  have hr := eb_rest2 a lv k R
  have hla : (elemBytes a lv k ++ R).length = a.size + lv.length + 2 + R.length := by rw [List.length_append, hlen]
  have ht : (elemBytes a lv k ++ R).take (elemBytes a lv k).length = elemBytes a lv k := List.take_left
  have hd : (elemBytes a lv k ++ R).drop (elemBytes a lv k).length = R := List.drop_left
  rw [hlen] at ht hd
  generalize elemBytes a lv k ++ R = L at *
  have e1 : wrap64 (((a.size + 1 : Nat) : Int) + 1) = ((a.size + 2 : Nat) : Int) := by rw [w64 (by omega) (by omega)]; omega
  have e2 : wrap64 (wrap64 (((a.size + 1 : Nat) : Int) + 1) + wrap64 (lv.length : Int)) = ((a.size + lv.length + 2 : Nat) : Int) := by rw [e1, w64 (x := (lv.length : Int)) (by omega) (by omega), w64 (by omega) (by omega)]; omega
  refine Ev.step (f := fun q => bsoncore_ReadElement.j1 q L k ((a.size + 1 : Nat) : Int) (rd L ((a.size + 1 : Nat) : Int) != 0)) (fun q => by rw [bsoncore_ReadElement.l0, if_pos (by omega), if_pos (by omega)]) ?_
  rw [hz]
  refine Ev.step (f := fun q => (bsoncore_valueLength.f q (L.drop (a.size + 2)) k).bind fun bt => (if bt.2 = true then (if (wrap64 ((wrap64 (((a.size + 1 : Nat) : Int) + 1)) + (wrap64 (bt.1)))) > (L.length : Int) then (some (([] : List Int), L, false)) else (if 0 ≤ (wrap64 ((wrap64 (((a.size + 1 : Nat) : Int) + 1)) + (wrap64 (bt.1)))) then (if (wrap64 ((wrap64 (((a.size + 1 : Nat) : Int) + 1)) + (wrap64 (bt.1)))) ≤ (L.length : Int) then (some ((L.take ((wrap64 ((wrap64 (((a.size + 1 : Nat) : Int) + 1)) + (wrap64 (bt.1)))) : Int).toNat), (L.drop ((wrap64 ((wrap64 (((a.size + 1 : Nat) : Int) + 1)) + (wrap64 (bt.1)))) : Int).toNat), true)) else (none)) else (none))) else (some (([] : List Int), L, false)))) (fun q => ?_) ?_
  · rw [bsoncore_ReadElement.j1, if_neg (by decide), if_neg (by omega), if_pos (by rw [e1]; omega), if_pos (by rw [e1, hla]; omega), show (wrap64 (((a.size + 1 : Nat) : Int) + 1)).toNat = a.size + 2 by rw [e1, Int.toNat_natCast]]
  · rw [hr]
    refine Ev.bind (shape_length hsh hl R) ?_
    refine Ev.congr (fun q => ?_) (Ev.now _)
    rw [if_pos rfl]
    simp only [e2]
    rw [if_neg (by omega), if_pos (by omega), if_pos (by omega), Int.toNat_natCast, ht, hd]
theorem read_elem {a : ByteArray} {lv : List Int} {k : Int} (hp : spec_DocPlain.f (a.size + 1) a = some true) (hs : a.size ≤ 65536) (hsh : Shape k lv) (hl : lv.length ≤ 200000) (R : List Int) (hR : R.length ≤ 1000000) : Ev (fun q => bsoncore_ReadElement.f q (elemBytes a lv k ++ R)) (elemBytes a lv k, R, true) := by
  have hlen : (elemBytes a lv k ++ R).length = a.size + lv.length + 2 + R.length := by rw [List.length_append, eb_length]
  have hpl := plain_nz a (by omega) hp
  have scan : ∀ j, j ≤ a.size → Ev (fun q => bsoncore_ReadElement.l0 q (elemBytes a lv k ++ R) k ((a.size - j + 1 : Nat) : Int)) (elemBytes a lv k, R, true) := by
    intro j
    induction j with
    | zero => intro _; exact read_end hp hs hsh hl R hR
    | succ j ih =>
      intro hj
      have h1 := ih (by omega)
      have hx := rd_name a lv k R (a.size - (j + 1)) (by omega)
      have hne := hpl (a.size - (j + 1)) (by omega)
      have hb : (rd (elemBytes a lv k ++ R) ((a.size - (j + 1) + 1 : Nat) : Int) != 0) = true := by
        rw [hx, bne_iff_ne]
        intro h0
        exact hne (UInt8.toNat_inj.1 (by show _ = 0; omega))
      refine Ev.step (f := fun q => bsoncore_ReadElement.j1 q (elemBytes a lv k ++ R) k ((a.size - (j + 1) + 1 : Nat) : Int) true) (fun q => by rw [bsoncore_ReadElement.l0, if_pos (by omega), if_pos (by omega), hb]) ?_
      refine Ev.step (f := fun q => bsoncore_ReadElement.l0 q (elemBytes a lv k ++ R) k ((a.size - j + 1 : Nat) : Int)) (fun q => ?_) h1
      rw [bsoncore_ReadElement.j1, if_pos rfl, show wrap64 (((a.size - (j + 1) + 1 : Nat) : Int) + 1) = ((a.size - j + 1 : Nat) : Int) by rw [w64 (by omega) (by omega)]; omega]
  have h0 := scan a.size (Nat.le_refl _)
  rw [Nat.sub_self] at h0
  refine Ev.congr (fun q => ?_) h0
  unfold bsoncore_ReadElement.f
  rw [if_neg (by omega), if_pos (by omega)]
  rfl
theorem key_elem {a : ByteArray} {lv : List Int} {k : Int} (hp : spec_DocPlain.f (a.size + 1) a = some true) (hs : a.size ≤ 65536) (hsh : Shape k lv) (hl : lv.length ≤ 200000) : bsoncore_Element_KeyBytes.f (elemBytes a lv k) = some (bytesOf a) := by
  have hlen := eb_length a lv k
  have hn := eb_name a lv k
  have hi : bytes_IndexByte.f ((elemBytes a lv k).drop 1) 0 = some (a.size : Int) := idx_plain a (by omega) hp lv
  unfold bsoncore_Element_KeyBytes.f bsoncore_Element_KeyBytesErr.f
  generalize elemBytes a lv k = L at *
  rw [if_neg (by omega), if_pos (by omega), hi, Option.bind_some, if_neg (by omega), w64 (by omega) (by omega), if_pos (by omega), if_pos (by omega), show ((a.size : Int) + 1).toNat = a.size + 1 by omega, hn]
  rfl
theorem value_elem {a : ByteArray} {lv : List Int} {k : Int} (hp : spec_DocPlain.f (a.size + 1) a = some true) (hs : a.size ≤ 65536) (hsh : Shape k lv) (hl : lv.length ≤ 200000) : Ev (fun q => bsoncore_Element_ValueErr.f q (elemBytes a lv k)) (k, lv, none) := by
  have hlen := eb_length a lv k
  have hi : bytes_IndexByte.f ((elemBytes a lv k).drop 1) 0 = some (a.size : Int) := idx_plain a (by omega) hp lv
  have hr := eb_rest a lv k
  have hrd : rd (elemBytes a lv k) 0 = k := rfl
  have evr : Ev (fun q => bsoncore_ReadValue.f q lv k) (k, lv, [], true) := by
    have e1 : Ev (fun q => bsoncore_readValue.f q lv k) (lv, [], true) := by
      have hs' := shape_length hsh hl []
      rw [List.append_nil] at hs'
      refine Ev.bind hs' ⟨1, fun q hq => ?_⟩
      obtain ⟨q, rfl⟩ : ∃ r, q = r + 1 := ⟨q - 1, by omega⟩
      show (if true = true then bsoncore_readValue.j0 (q + 1) lv (lv.length : Int) (decide (wrap64 (lv.length : Int) > (lv.length : Int))) else _) = _
      rw [if_pos rfl, w64 (by omega) (by omega), decide_eq_false (by omega), bsoncore_readValue.j0, if_neg (by decide), if_pos (by omega), if_pos (by omega), Int.toNat_natCast, List.take_length, List.drop_length]
    refine Ev.bind e1 ⟨0, fun q _ => ?_⟩
    rfl
  generalize elemBytes a lv k = L at *
  refine Ev.congr (f := fun q => (bsoncore_ReadValue.f q lv k).bind fun bt => (if bt.2.2.2 = true then (some (bt.1, bt.2.1, none)) else (none))) (fun q => ?_) (Ev.bind evr ?_)
  · unfold bsoncore_Element_ValueErr.f
    rw [if_neg (by omega), if_pos (by omega), hi, Option.bind_some, if_neg (by omega), w64 (by omega) (by omega), if_pos (by omega), if_pos (by omega), if_pos (by omega), show ((a.size : Int) + 2).toNat = a.size + 2 by omega, hr, hrd]
  · exact Ev.congr (fun q => by rw [if_pos rfl]) (Ev.now _)
/-- An element with another name is passed by. -/
theorem look_skip {a : ByteArray} {lv : List Int} {k : Int} (hp : spec_DocPlain.f (a.size + 1) a = some true) (hs : a.size ≤ 65536) (hsh : Shape k lv) (hl : lv.length ≤ 200000) (R : List Int) (hR : R.length ≤ 1000000) (nm : ByteArray) (more : List ByteArray) (hne : ¬ a.toList = nm.toList) (x : Int) (h6 : 1 < x) (h6' : x ≤ 2000000) (res : Int × List Int × Option (Int × ByteArray)) (h : Ev (fun q => bsoncore_Document_LookupErr.l0 q (nm :: more) (x - (elemBytes a lv k).length) R) res) : Ev (fun q => bsoncore_Document_LookupErr.l0 q (nm :: more) x (elemBytes a lv k ++ R)) res := by
  have hlen := eb_length a lv k
  have hrd : rdOf ByteArray.empty (nm :: more) 0 = nm := rfl
  have hk : 0 < ((nm :: more).length : Int) := by simp only [List.length_cons]; omega
  have e1 : wrap32 (x - wrap32 ((elemBytes a lv k).length : Int)) = x - ((elemBytes a lv k).length : Int) := by rw [w32 (x := ((elemBytes a lv k).length : Int)) (by omega) (by omega), w32 (by omega) (by omega)]
  refine Ev.step (fun q => by rw [bsoncore_Document_LookupErr.l0, if_pos (by omega)]) ?_
  refine Ev.bind (read_elem hp hs hsh hl R hR) ?_
  refine Ev.congr (fun q => ?_) h
  rw [if_pos rfl, key_elem hp hs hsh hl, Option.bind_some, if_pos hk, PL.strOfNums_bytesOf, hrd, if_neg hne]
  show bsoncore_Document_LookupErr.l0 q (nm :: more) (wrap32 (x - wrap32 ((elemBytes a lv k).length : Int))) R = _
  rw [e1]
/-- An element with the name, the last one of the path. -/
theorem look_hit {a : ByteArray} {lv : List Int} {k : Int} (hp : spec_DocPlain.f (a.size + 1) a = some true) (hs : a.size ≤ 65536) (hsh : Shape k lv) (hl : lv.length ≤ 200000) (R : List Int) (hR : R.length ≤ 1000000) (nm : ByteArray) (he : a.toList = nm.toList) (x : Int) (h6 : 1 < x) : Ev (fun q => bsoncore_Document_LookupErr.l0 q [nm] x (elemBytes a lv k ++ R)) (k, lv, none) := by
  have hrd : rdOf ByteArray.empty [nm] 0 = nm := rfl
  refine Ev.step (fun q => by rw [bsoncore_Document_LookupErr.l0, if_pos h6]) ?_
  refine Ev.bind (read_elem hp hs hsh hl R hR) ?_
  refine Ev.congr (f := fun q => (bsoncore_Element_ValueErr.f q (elemBytes a lv k)).bind fun bt => (some (bt.1, bt.2.1, bt.2.2))) (fun q => ?_) (Ev.bind (value_elem hp hs hsh hl) (Ev.now _))
  rw [if_pos rfl, key_elem hp hs hsh hl, Option.bind_some, if_pos (by simp), PL.strOfNums_bytesOf, hrd, if_pos he, if_neg (by simp)]
/-- What stands ahead, under other names, is passed by. -/
theorem look_past {r : List S73} {bp : List Int} (h : Wr r bp) (nm : ByteArray) (more : List ByteArray) (R : List Int) (hR : bp.length + R.length ≤ 200000) (res : Int × List Int × Option (Int × ByteArray)) : (∀ e, e ∈ r → ¬ e.f0.toList = nm.toList) → ∀ x : Int, 1 ≤ x → x + bp.length ≤ 1000000 → Ev (fun q => bsoncore_Document_LookupErr.l0 q (nm :: more) x R) res → Ev (fun q => bsoncore_Document_LookupErr.l0 q (nm :: more) (x + bp.length) (bp ++ R)) res := by
  induction h with
  | nil => intro _ x h1 h2 hx; simpa using hx
  | cons e r lv body hp hs hk0 hk1 ev hsh hr ih =>
    intro hn x h1 h2 hx
    have hel := eb_length e.f0 lv e.f1.f0
    rw [List.length_append] at hR h2
    have h3 := ih (by omega) (fun y hy => hn y (by simp [hy])) x h1 (by omega) hx
    rw [List.append_assoc]
    refine look_skip hp hs hsh (by omega) (body ++ R) (by rw [List.length_append]; omega) nm more (hn e (by simp)) _ (by rw [List.length_append]; omega) (by rw [List.length_append]; omega) res ?_
    rw [show x + (((elemBytes e.f0 lv e.f1.f0 ++ body).length : Nat) : Int) - ((elemBytes e.f0 lv e.f1.f0).length : Int) = x + (body.length : Int) by rw [List.length_append]; omega]
    exact h3
theorem look_in (body : List Int) (hb : body.length ≤ 200000) (nm : ByteArray) (more : List ByteArray) (res : Int × List Int × Option (Int × ByteArray)) (h : Ev (fun q => bsoncore_Document_LookupErr.l0 q (nm :: more) ((body.length : Int) + 1) (body ++ [0])) res) : Ev (fun q => bsoncore_Document_LookupErr.f q (docOf body) (nm :: more)) res := by
  have hr : bsoncore_ReadLength.f (docOf body) = some (((body.length + 5 : Nat) : Int), body ++ [0], true) := readlen _ _ (by omega)
  refine Ev.step (fun q => ?_) h
  rw [bsoncore_Document_LookupErr.f, if_neg (by simp only [List.length_cons]; omega), hr, Option.bind_some, if_pos rfl]
  dsimp only
  rw [w32 (by omega) (by omega), show ((body.length + 5 : Nat) : Int) - 4 = (body.length : Int) + 1 by omega]

end Go.Proofs.YtbfhpjkahobgnaaGreatDoor.PLo.VT
