/- What a right document is written as. Conditions: as each theorem states them. -/
import Derived.Test.YtlcgakpnpdkjjaaDoorProg
import Derived.Test.YtlcgakpnpdkjjaaDoorHW
import Derived.Below
import Derived.Deep.Draws
import Derived.OwnWalk
import Derived.Tactics
import Derived.WalkKit
import Derived.KernelRfl
import Derived.RowKit3
import Derived.Deep.LoopGhost
import Derived.Deep.QuietTactic
import Derived.BigQuiet
import Derived.WideLaws
import Derived.Deep.DeepCutAuto
import Derived.Deep.CutBlock
import Derived.Laws.Rows
import Derived.Outline
import Derived.StillTailTactics
import Derived.Deep.RegionHeld3
import Derived.Test.YtlcgakpnpdkjjaaDoorSh
import Derived.Test.YtlcgakpnpdkjjaaDoorPBzx7
namespace Go.Proofs.YtlcgakpnpdkjjaaDoor.PBz.VT
open Go.RowKit Go.Proofs.YtlcgakpnpdkjjaaDoorW.PrintWords Go.Proofs.YtlcgakpnpdkjjaaDoorW.PrintLast Go.Proofs.YtlcgakpnpdkjjaaDoorW.PrintMore
set_option linter.unusedVariables false
set_option linter.unusedSimpArgs false
theorem Ev.uniq_ {α : Type} {g : Nat → Option α} {r s : α} (h : Ev g r) (k : Ev g s) : r = s := by
  obtain ⟨K, h⟩ := h
  obtain ⟨K', k⟩ := k
  have a := h (max K K') (by omega)
  have b := k (max K K') (by omega)
  exact Option.some.inj (a.symm.trans b)
theorem kids_form : ∀ (r : List S34) (n b : Nat), SzL r n b → n ≤ 1000 → b ≤ 65536 → (∀ e, e ∈ r → FitV e.f1) → ∀ (K pre : List S34) (acc : List Int), K = pre ++ r → K.length ≤ M → acc.length + b + 24 * n ≤ 100000 →
    ∃ body, Ev (fun k => spec_DocBytes.l0 k K acc (pre.length : Int)) (le4 ((body.length + 5 : Nat) : Int) ++ (body ++ [0])) ∧ body.length ≤ acc.length + b + 24 * n := by
  intro r
  induction r with
  | nil =>
    intro n b hs hn hb hk K pre acc he hM ha
    refine ⟨acc, ⟨1, fun k hk => ?_⟩, by omega⟩
    obtain ⟨k, rfl⟩ : ∃ q, k = q + 1 := ⟨k - 1, by omega⟩
    show spec_DocBytes.l0 (k + 1) _ _ _ = _
    rw [spec_DocBytes.l0, if_neg (by rw [he]; simp)]
    exact doc_form acc (by omega)
  | cons e r ihr =>
    intro n b hs hn hb hk K pre acc he hM ha
    cases hs with
    | cons _ _ n1 b1 n' b' h1 hr =>
    have hM' : K.length ≤ 140737488351232 := hM
    have hlen : K.length = pre.length + (r.length + 1) := by rw [he]; simp
    have he' : rd_T34 K (pre.length : Int) = e := by rw [he]; exact rd_at pre r e
    obtain ⟨lv, ev1, hl1⟩ := value h1 (hk e (by simp)) (by omega) (by omega)
    obtain ⟨hd, hhd, hhl⟩ := head_some e.f1.f0 e.f0 (by omega)
    obtain ⟨l, ev2, hl2⟩ := ihr n' b' hr (by omega) (by omega) (fun x hx => hk x (by simp [hx])) K (pre ++ [e]) (acc ++ (hd ++ lv)) (by rw [he]; simp) hM (by simp only [List.length_append]; omega)
    refine ⟨l, ?_, by simp only [List.length_append] at hl2; omega⟩
    have hsum : hd.length + lv.length < 140737488355328 := by omega
    have evE : Ev (fun k => spec_DocElem.f k e.f0 e.f1.f0 e.f1.f1 e.f1.f2 e.f1.f3 e.f1.f4 e.f1.f5 e.f1.f6 e.f1.f7) (hd ++ lv) := by
      refine Ev.step (f := fun k => (spec_DocValue.f k e.f1.f0 e.f1.f1 e.f1.f2 e.f1.f3 e.f1.f4 e.f1.f5 e.f1.f6 e.f1.f7).bind fun t300 => (if hd.length + t300.length < 140737488355328 then (some (hd ++ t300)) else (none))) (fun k => by rw [spec_DocElem.f, hhd]; rfl) ?_
      refine Ev.bind ev1 ?_
      exact Ev.congr (fun k => by rw [if_pos hsum]) (Ev.now _)
    refine Ev.step (f := fun k => (spec_DocElem.f k e.f0 e.f1.f0 e.f1.f1 e.f1.f2 e.f1.f3 e.f1.f4 e.f1.f5 e.f1.f6 e.f1.f7).bind fun t => (if acc.length + t.length < 140737488355328 then (spec_DocBytes.l0 k K (acc ++ t) (wrap64 ((pre.length : Int) + 1))) else (none))) (fun k => ?_) ?_
    · rw [spec_DocBytes.l0, if_pos (by omega), if_pos (by omega), he']
    · refine Ev.bind evE ?_
      have e2 : wrap64 ((pre.length : Int) + 1) = (((pre ++ [e]).length : Nat) : Int) := by rw [w64 (by omega) (by omega)]; simp
      exact Ev.congr (fun k => by rw [if_pos (by simp only [List.length_append]; omega), e2]) ev2
/-- What a right value is written as has its kind's shape. -/
theorem shape_value {v : S26} {n b : Nat} (h : SzV v n b) (hv : FitV v) (hn : n ≤ 1000) (hb : b ≤ 65536) (hkn : spec_DocKnown.f v.f0 = some true) (hm : (v.f0 = 7 → v.f6.length = 12) ∧ (v.f0 = 12 → v.f6.length = 12) ∧ (v.f0 = 11 → spec_DocPlain.f (v.f1.size + 1) v.f1 = some true ∧ spec_DocPlain.f (v.f2.size + 1) v.f2 = some true)) :
    ∃ l, Ev (fun k => spec_DocValue.f k v.f0 v.f1 v.f2 v.f3 v.f4 v.f5 v.f6 v.f7) l ∧ Shape v.f0 l ∧ l.length ≤ 100000 := by
  obtain ⟨l', ev', hl'⟩ := value h hv hn hb
  cases h with
  | mk _ n b hs =>
  obtain ⟨body, ev, hl⟩ := kids_form v.f7 n b hs (by omega) (by omega) hv.kid v.f7 [] [] rfl hv.kids (by simp only [List.length_nil]; omega)
  simp only [List.length_nil] at hl
  have evB : Ev (fun k => spec_DocBytes.f k v.f7) (le4 ((body.length + 5 : Nat) : Int) ++ (body ++ [0])) := Ev.step (fun k => by rw [spec_DocBytes.f]; rfl) ev
  obtain ⟨l, h1, h2⟩ := dv_shape v (by omega) (by omega) (by omega) (by omega) body (by omega) evB hkn hm
  have := Ev.uniq_ h1 ev'
  subst this
  exact ⟨l, h1, h2, by omega⟩
theorem known_range {k : Int} (h : spec_DocKnown.f k = some true) : 1 ≤ k ∧ k ≤ 255 := by
  unfold spec_DocKnown.f at h
  (repeat' split at h) <;> simp at h <;> omega
open PL in
theorem same_list (l : List Int) : ((strOfNums l).toList == (strOfNums l).toList) = true := beq_self_eq_true _
section
variable (a : ByteArray) (lv : List Int) (k : Int)
/-- An element's bytes. -/
def elemBytes : List Int := k :: (bytesOf a ++ 0 :: lv)
theorem eb_length : (elemBytes a lv k).length = a.size + lv.length + 2 := by
  simp only [elemBytes, List.length_cons, List.length_append, bytesOf_length]
  omega
theorem eb_name : ((elemBytes a lv k).take (a.size + 1)).drop 1 = bytesOf a := by
  show ((k :: (bytesOf a ++ 0 :: lv)).take (a.size + 1)).drop 1 = bytesOf a
  rw [List.take_succ_cons, List.drop_succ_cons, List.drop_zero, ← bytesOf_length a, List.take_left']
  rfl
theorem eb_rest : (elemBytes a lv k).drop (a.size + 2) = lv := by
  show (k :: (bytesOf a ++ 0 :: lv)).drop (a.size + 2) = lv
  rw [List.drop_succ_cons, ← bytesOf_length a, List.drop_append]
  simp
end

/-- What bindRight asks. -/
theorem bright_ev (v : S26) (hv : FitV v) : Ev (fun k => laws_bindRight.f k v.f0 v.f1 v.f2 v.f3 v.f4 v.f5 v.f6 v.f7) false ∨ ∃ n b, SzV v n b ∧ n ≤ 1000 ∧ b ≤ 65536 ∧ docR 200 v.f0 v.f1 v.f2 v.f3 v.f4 v.f5 v.f6 v.f7 = some true ∧ Ev (fun k => laws_bindRight.f k v.f0 v.f1 v.f2 v.f3 v.f4 v.f5 v.f6 v.f7) true := by
  obtain ⟨c, h1, h2, ev, hsz⟩ := count 1000 (by decide) v hv
  have ev' : Ev (fun k => laws_docCount.f k v.f0 v.f1 v.f2 v.f3 v.f4 v.f5 v.f6 v.f7 1000) (c : Int) := ev
  by_cases hc : (c : Int) ≤ 1000
  · obtain ⟨b, hb⟩ := hsz (by omega)
    obtain ⟨q, hq⟩ := right_some 200 v hv
    have hdr : spec_DocRight.f v.f0 v.f1 v.f2 v.f3 v.f4 v.f5 v.f6 v.f7 = some q := by
      unfold spec_DocRight.f spec_docRight.f
      rw [if_pos (by decide), show (200 : Int).toNat = 200 from rfl, hq]; rfl
    cases q with
    | false =>
      left
      refine Ev.bind ev' ⟨0, fun k _ => ?_⟩
      show (if (c : Int) ≤ 1000 then _ else _) = _
      rw [if_pos hc, hdr]; rfl
    | true =>
      have evb := bytes hb hv (by omega)
      by_cases hbb : b ≤ 65536
      · right
        refine ⟨c, b, hb, by omega, hbb, hq, Ev.bind ev' (Ev.congr (f := fun k => (laws_docBytes.f k v.f0 v.f1 v.f2 v.f3 v.f4 v.f5 v.f6 v.f7).bind fun t => some (decide (t ≤ 65536))) (fun k => by rw [if_pos hc, hdr]; rfl) (Ev.bind evb ⟨0, fun k _ => ?_⟩))⟩
        show some (decide ((b : Int) ≤ 65536)) = _
        rw [decide_eq_true (by omega)]
      · left
        refine Ev.bind ev' (Ev.congr (f := fun k => (laws_docBytes.f k v.f0 v.f1 v.f2 v.f3 v.f4 v.f5 v.f6 v.f7).bind fun t => some (decide (t ≤ 65536))) (fun k => by rw [if_pos hc, hdr]; rfl) (Ev.bind evb ⟨0, fun k _ => ?_⟩))
        show some (decide ((b : Int) ≤ 65536)) = _
        rw [decide_eq_false (by omega)]
  · left
    refine Ev.bind ev' ⟨0, fun k _ => ?_⟩
    show (if (c : Int) ≤ 1000 then _ else _) = _
    rw [if_neg hc]
/-- Whether the texts are text is told. -/
theorem texts {v : S26} {n b : Nat} (h : SzV v n b) : FitV v → b ≤ 65536 → ∃ t, Ev (fun k => spec_BindTexts.f k v.f0 v.f1 v.f2 v.f3 v.f4 v.f5 v.f6 v.f7) t :=
  SzV.rec (motive_1 := fun v n b _ => FitV v → b ≤ 65536 → ∃ t, Ev (fun k => spec_BindTexts.f k v.f0 v.f1 v.f2 v.f3 v.f4 v.f5 v.f6 v.f7) t)
    (motive_2 := fun r n b _ => b ≤ 65536 → ∀ (v : S26) (pre : List S34), FitV v → v.f7 = pre ++ r → ∃ t, Ev (fun k => spec_BindTexts.l0 k (pre.length : Int) v.f0 v.f1 v.f2 v.f3 v.f4 v.f5 v.f6 v.f7) t)
    (fun v n b hs ih hv hb => by
      have hz : v.f2.size ≤ 70368744177664 := by omega
      by_cases ht : (runesBytes (HW.runesOf v.f2)).toList = v.f2.toList
      · obtain ⟨t, ev⟩ := ih (by omega) v [] hv rfl
        exact ⟨t, Ev.step (fun k => by rw [spec_BindTexts.f, if_pos hz, if_pos ht]; rfl) ev⟩
      · exact ⟨false, Ev.step (fun k => by rw [spec_BindTexts.f, if_pos hz, if_neg ht]) (Ev.now _)⟩)
    (fun hb v pre hv he => ⟨true, Ev.step (fun k => by rw [spec_BindTexts.l0, if_neg (by rw [he]; simp)]) (Ev.now _)⟩)
    (fun e r n b n' b' hs hr ih ihr hb v pre hv he => by
      have hlen : v.f7.length = pre.length + (r.length + 1) := by rw [he]; simp
      have hM : v.f7.length ≤ 140737488351232 := hv.kids
      have he' : rd_T34 v.f7 (pre.length : Int) = e := by rw [he]; exact rd_at pre r e
      have e2 : wrap64 ((pre.length : Int) + 1) = (((pre ++ [e]).length : Nat) : Int) := by rw [w64 (by omega) (by omega)]; simp
      obtain ⟨t1, ev1⟩ := ih (hv.kid e (by rw [he]; simp)) (by omega)
      obtain ⟨t2, ev2⟩ := ihr (by omega) v (pre ++ [e]) hv (by rw [he]; simp)
      cases t1 with
      | false => exact ⟨false, Ev.step (f := fun k => (spec_BindTexts.f k e.f1.f0 e.f1.f1 e.f1.f2 e.f1.f3 e.f1.f4 e.f1.f5 e.f1.f6 e.f1.f7).bind fun t => (if t = true then (spec_BindTexts.l0 k (wrap64 ((pre.length : Int) + 1)) v.f0 v.f1 v.f2 v.f3 v.f4 v.f5 v.f6 v.f7) else (some false))) (fun k => by rw [spec_BindTexts.l0, if_pos (by omega), if_pos (by omega), he']) (Ev.bind ev1 (Ev.congr (fun k => by rw [if_neg (by decide)]) (Ev.now _)))⟩
      | true => exact ⟨t2, Ev.step (f := fun k => (spec_BindTexts.f k e.f1.f0 e.f1.f1 e.f1.f2 e.f1.f3 e.f1.f4 e.f1.f5 e.f1.f6 e.f1.f7).bind fun t => (if t = true then (spec_BindTexts.l0 k (wrap64 ((pre.length : Int) + 1)) v.f0 v.f1 v.f2 v.f3 v.f4 v.f5 v.f6 v.f7) else (some false))) (fun k => by rw [spec_BindTexts.l0, if_pos (by omega), if_pos (by omega), he']) (Ev.bind ev1 (Ev.congr (fun k => by rw [if_pos rfl, e2]) ev2))⟩) h
/-- What the elements of a right document are written as. -/
inductive Wr : List S34 → List Int → Prop
  | nil : Wr [] []
  | cons (e : S34) (r : List S34) (lv body : List Int) (hp : spec_DocPlain.f (e.f0.size + 1) e.f0 = some true) (hs : e.f0.size ≤ 65536) (hk0 : 1 ≤ e.f1.f0) (hk1 : e.f1.f0 ≤ 255) (ev : Ev (fun k => spec_DocValue.f k e.f1.f0 e.f1.f1 e.f1.f2 e.f1.f3 e.f1.f4 e.f1.f5 e.f1.f6 e.f1.f7) lv) (hsh : Shape e.f1.f0 lv) (hr : Wr r body) : Wr (e :: r) (elemBytes e.f0 lv e.f1.f0 ++ body)
/-- A document's bytes by its elements' bytes. -/
def docOf (body : List Int) : List Int := le4 ((body.length + 5 : Nat) : Int) ++ (body ++ [0])
theorem docOf_length (body : List Int) : (docOf body).length = body.length + 5 := by
  unfold docOf; rw [List.length_append, le4_length, List.length_append]; simp only [List.length_cons, List.length_nil]; omega
theorem elem_written (e : S34) (lv : List Int) (hs : e.f0.size ≤ 65536) (hk0 : 1 ≤ e.f1.f0) (hk1 : e.f1.f0 ≤ 255) (hl : lv.length ≤ 1000000) (ev : Ev (fun k => spec_DocValue.f k e.f1.f0 e.f1.f1 e.f1.f2 e.f1.f3 e.f1.f4 e.f1.f5 e.f1.f6 e.f1.f7) lv) : Ev (fun k => spec_DocElem.f k e.f0 e.f1.f0 e.f1.f1 e.f1.f2 e.f1.f3 e.f1.f4 e.f1.f5 e.f1.f6 e.f1.f7) (elemBytes e.f0 lv e.f1.f0) := by
  have hhd : spec_DocHead.f e.f1.f0 e.f0 = some ([e.f1.f0] ++ bytesOf e.f0 ++ [0]) := by
    unfold spec_DocHead.f
    have y1 : ([e.f1.f0] : List Int).length + e.f0.size < 140737488355328 := by simp only [List.length_cons, List.length_nil]; omega
    have y2 : ([e.f1.f0] ++ bytesOf e.f0 : List Int).length < 140737488355328 := by rw [List.length_append, bytesOf_length]; simp only [List.length_cons, List.length_nil]; omega
    rw [show e.f1.f0 % 256 = e.f1.f0 by omega]
    simp only [Option.bind_some, y1, y2, if_true]
  refine Ev.step (f := fun k => (spec_DocValue.f k e.f1.f0 e.f1.f1 e.f1.f2 e.f1.f3 e.f1.f4 e.f1.f5 e.f1.f6 e.f1.f7).bind fun t300 => (if ([e.f1.f0] ++ bytesOf e.f0 ++ [0] : List Int).length + t300.length < 140737488355328 then (some ([e.f1.f0] ++ bytesOf e.f0 ++ [0] ++ t300)) else (none))) (fun k => by rw [spec_DocElem.f, hhd]; rfl) ?_
  refine Ev.bind ev ?_
  refine Ev.congr (fun k => ?_) (Ev.now _)
  rw [if_pos (by simp only [List.length_append, bytesOf_length, List.length_cons, List.length_nil]; omega)]
  simp [elemBytes]
theorem wr_l0 {r : List S34} {body : List Int} (h : Wr r body) : ∀ (K pre : List S34) (acc : List Int), K = pre ++ r → K.length ≤ M → acc.length + body.length ≤ 1000000 → Ev (fun k => spec_DocBytes.l0 k K acc (pre.length : Int)) (docOf (acc ++ body)) := by
  induction h with
  | nil =>
    intro K pre acc he hM ha
    refine ⟨1, fun k hk => ?_⟩
    obtain ⟨k, rfl⟩ : ∃ q, k = q + 1 := ⟨k - 1, by omega⟩
    show spec_DocBytes.l0 (k + 1) _ _ _ = _
    rw [spec_DocBytes.l0, if_neg (by rw [he]; simp), List.append_nil]
    exact doc_form acc (by omega)
  | cons e r lv body hp hs hk0 hk1 ev hsh hr ih =>
    intro K pre acc he hM ha
    have hM' : K.length ≤ 140737488351232 := hM
    have hlen : K.length = pre.length + (r.length + 1) := by rw [he]; simp
    have he' : rd_T34 K (pre.length : Int) = e := by rw [he]; exact rd_at pre r e
    have hel := eb_length e.f0 lv e.f1.f0
    rw [List.length_append] at ha
    have ev2 := ih K (pre ++ [e]) (acc ++ elemBytes e.f0 lv e.f1.f0) (by rw [he]; simp) hM (by rw [List.length_append]; omega)
    have evE := elem_written e lv hs hk0 hk1 (by omega) ev
    generalize elemBytes e.f0 lv e.f1.f0 = E at ha ev2 evE hel ⊢
    rw [← List.append_assoc]
    refine Ev.step (f := fun k => (spec_DocElem.f k e.f0 e.f1.f0 e.f1.f1 e.f1.f2 e.f1.f3 e.f1.f4 e.f1.f5 e.f1.f6 e.f1.f7).bind fun t => (if acc.length + t.length < 140737488355328 then (spec_DocBytes.l0 k K (acc ++ t) (wrap64 ((pre.length : Int) + 1))) else (none))) (fun k => ?_) ?_
    · rw [spec_DocBytes.l0, if_pos (by omega), if_pos (by omega), he']
    · refine Ev.bind evE ?_
      have e2 : wrap64 ((pre.length : Int) + 1) = (((pre ++ [e]).length : Nat) : Int) := by rw [w64 (by omega) (by omega)]; simp
      exact Ev.congr (fun k => by rw [if_pos (by omega), e2]) ev2
theorem wr_doc {r : List S34} {body : List Int} (h : Wr r body) (hM : r.length ≤ M) (hb : body.length ≤ 1000000) : Ev (fun k => spec_DocBytes.f k r) (docOf body) :=
  Ev.step (fun k => by rw [spec_DocBytes.f]; rfl) (wr_l0 h r [] [] rfl hM (by simpa using hb))
theorem dv_doc (k0 : Int) (h : k0 = 3) (t m : ByteArray) (n b hh : Int) (B : List Int) (K : List S34) (l : List Int) (ev : Ev (fun k => spec_DocBytes.f k K) l) : Ev (fun k => spec_DocValue.f k k0 t m n b hh B K) l := by
  subst h
  refine Ev.step (f := fun k => spec_DocValue.j0 k [] 3 ((3 : Int) == 17) 3 t m n b hh B K) (fun k => by rw [spec_DocValue.f, if_neg (by decide)]) ?_
  refine Ev.step (f := fun k => spec_DocValue.j1 k [] 3 ((3 : Int) == 14) 3 t m n b hh B K) (fun k => by rw [spec_DocValue.j0, if_neg (by decide), if_neg (by decide), if_neg (by decide)]) ?_
  refine Ev.step (f := fun k => spec_DocValue.j2 k [] 3 ((3 : Int) == 3) 3 t m n b hh B K) (fun k => by rw [spec_DocValue.j1, if_neg (by decide), if_pos rfl]) ?_
  refine Ev.step (f := fun k => (spec_DocBytes.f k K).bind fun t => some t) (fun k => by rw [spec_DocValue.j2, if_pos (by decide)]) ?_
  exact Ev.bind ev (Ev.now _)
/-- The elements of a right document are written. -/
theorem wr_of (d : Nat) (arr : Bool) : ∀ (r : List S34) (n b : Nat) (i : Int), SzL r n b → n ≤ 1000 → b ≤ 65536 → (∀ e, e ∈ r → FitV e.f1) → docRL (fun v => docR d v.f0 v.f1 v.f2 v.f3 v.f4 v.f5 v.f6 v.f7) arr r i = some true → ∃ body, Wr r body ∧ body.length ≤ b + 24 * n := by
  intro r
  induction r with
  | nil => intro n b i hs hn hb hk h; exact ⟨[], .nil, by simp⟩
  | cons e r ih =>
    intro n b i hs hn hb hk h
    cases hs with
    | cons _ _ n1 b1 n' b' h1 hr =>
    rw [docRL] at h
    obtain ⟨o, ho, h⟩ := Option.bind_eq_some_iff.1 h
    have hot : o = true := by cases o with | true => rfl | false => simp at h
    rw [hot, if_neg (by decide)] at h
    obtain ⟨q, hq, h⟩ := Option.bind_eq_some_iff.1 h
    have hqt : q = true := by cases q with | true => rfl | false => simp at h
    rw [hqt, if_neg (by decide)] at h
    rw [hot] at ho
    rw [hqt] at hq
    unfold nameOk at ho
    obtain ⟨p, hp, ho⟩ := Option.bind_eq_some_iff.1 ho
    have hpt : p = true := by cases p with | true => rfl | false => simp at ho
    rw [hpt] at hp
    obtain ⟨body, hw, hbl⟩ := ih n' b' (i + 1) hr (by omega) (by omega) (fun x hx => hk x (by simp [hx])) h
    have hv := hk e (by simp)
    obtain ⟨hkn, _⟩ := right_top d e.f1 hq
    obtain ⟨lv, evl, hsh, hll⟩ := shape_value h1 hv (by omega) (by omega) hkn (right_more d e.f1 hq)
    obtain ⟨l', ev', hl'⟩ := value h1 hv (by omega) (by omega)
    have := Ev.uniq_ evl ev'
    subst this
    obtain ⟨hk0, hk1⟩ := known_range hkn
    refine ⟨_, Wr.cons e r lv body hp (by omega) hk0 hk1 evl hsh hw, ?_⟩
    rw [List.length_append, eb_length]
    omega
theorem szl_len : ∀ {r : List S34} {n b : Nat}, SzL r n b → r.length ≤ n := by
  intro r
  induction r with
  | nil => intro n b h; cases h; simp
  | cons e r ih =>
    intro n b h
    cases h with
    | cons _ _ n1 b1 n' b' h1 hr =>
    have := ih hr
    have := SzL.pos h1
    simp only [List.length_cons]; omega

theorem wr_append {r s : List S34} {b c : List Int} (h : Wr r b) (hs : Wr s c) : Wr (r ++ s) (b ++ c) := by
  induction h with
  | nil => exact hs
  | cons e r lv body hp hz hk0 hk1 ev hsh hr ih => rw [List.append_assoc]; exact Wr.cons e _ lv _ hp hz hk0 hk1 ev hsh ih
theorem wr_in {v : S26} {n b : Nat} (hsz : SzV v n b) (hv : FitV v) (hn : n ≤ 1000) (hb : b ≤ 65536) (hr : docR 200 v.f0 v.f1 v.f2 v.f3 v.f4 v.f5 v.f6 v.f7 = some true) (h3 : v.f0 = 3) : ∃ body, Wr v.f7 body ∧ body.length ≤ 90000 ∧ v.f7.length ≤ 1000 := by
  have hk := right_kids 200 v hr (Or.inl h3)
  cases hsz with
  | mk _ n b hs =>
  obtain ⟨body, hw, hl⟩ := wr_of 199 (v.f0 == 4) v.f7 n b 0 hs (by omega) (by omega) hv.kid hk
  have := szl_len hs
  exact ⟨body, hw, by omega, by omega⟩
theorem bdoc_ev (v : S26) (hv : FitV v) : (∃ D, Ev (fun k => laws_bindDoc.f k v.f0 v.f1 v.f2 v.f3 v.f4 v.f5 v.f6 v.f7) (D, false)) ∨ ∃ body, Wr v.f7 body ∧ body.length ≤ 90000 ∧ v.f7.length ≤ 1000 ∧ Ev (fun k => laws_bindDoc.f k v.f0 v.f1 v.f2 v.f3 v.f4 v.f5 v.f6 v.f7) (docOf body, true) := by
  have out : Ev (fun k => laws_bindDoc.j0 k true v.f0 v.f1 v.f2 v.f3 v.f4 v.f5 v.f6 v.f7) ([], false) := Ev.step (fun k => by rw [laws_bindDoc.j0, if_pos rfl]) (Ev.now _)
  by_cases h3 : v.f0 = 3
  · have hg : ∀ k, laws_bindDoc.f k v.f0 v.f1 v.f2 v.f3 v.f4 v.f5 v.f6 v.f7 = (laws_bindRight.f k v.f0 v.f1 v.f2 v.f3 v.f4 v.f5 v.f6 v.f7).bind fun t372 => (if t372 = true then ((spec_BindTexts.f k v.f0 v.f1 v.f2 v.f3 v.f4 v.f5 v.f6 v.f7).bind fun t373 => (laws_bindDoc.j0 k (!t373) v.f0 v.f1 v.f2 v.f3 v.f4 v.f5 v.f6 v.f7)) else (laws_bindDoc.j0 k true v.f0 v.f1 v.f2 v.f3 v.f4 v.f5 v.f6 v.f7)) := fun k => by unfold laws_bindDoc.f; rw [if_pos h3]
    rcases bright_ev v hv with hf | ⟨n, b, hsz, hn, hb, hr, hf⟩
    · exact Or.inl ⟨[], Ev.congr hg (Ev.bind hf (Ev.congr (fun k => by rw [if_neg (by decide)]) out))⟩
    · obtain ⟨t, ht⟩ := texts hsz hv hb
      cases t with
      | false => exact Or.inl ⟨[], Ev.congr hg (Ev.bind hf (Ev.congr (fun k => by rw [if_pos rfl]) (Ev.bind ht out)))⟩
      | true =>
        obtain ⟨body, hw, hl, hkl⟩ := wr_in hsz hv hn hb hr h3
        have hkl' : v.f7.length ≤ M := by show _ ≤ 140737488351232; omega
        refine Or.inr ⟨body, hw, hl, hkl, Ev.congr hg (Ev.bind hf (Ev.congr (fun k => by rw [if_pos rfl]) (Ev.bind ht ?_)))⟩
        refine Ev.step (fun k => by rw [show (!true) = false from rfl, laws_bindDoc.j0, if_neg (by decide)]) ?_
        exact Ev.bind (wr_doc hw hkl' (by omega)) (Ev.now _)
  · exact Or.inl ⟨[], Ev.congr (fun k => by unfold laws_bindDoc.f; rw [if_neg h3]) out⟩

end Go.Proofs.YtlcgakpnpdkjjaaDoor.PBz.VT
