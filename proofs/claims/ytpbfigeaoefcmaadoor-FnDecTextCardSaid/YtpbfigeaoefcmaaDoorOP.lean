/- Arguments of any kind, opened: what is read as data is a row of a kind of the printed text's. Conditions: as each theorem states them. -/
import Derived.Test.YtpbfigeaoefcmaaDoorWWords
import Derived.ChangeSlices
import Derived.SizedLaws
import Derived.WalkKit
namespace Go.Proofs.YtpbfigeaoefcmaaDoor.OP
open Go.RowKit Go.Proofs.YtpbfigeaoefcmaaDoorW.PrintWords
set_option linter.unusedVariables false
set_option linter.unusedSimpArgs false
section
variable {P : Program}
/-- What is read at a type is an element of a kind; its sizes and numbers fit. -/
def Opens (P : Program) {α : Type} (d : Kd α) (t : TypeId) (Fit : α → Prop) (f : Nat) : Prop :=
  ∀ {H : Type} (enc : TypeId × Value → H) (w : World) (cs : List Value) (x : DataW H × List MemPlace), DataW.trod enc P w 0 (fun _ => true) true f t cs = some x → (∀ n, n ∈ x.1.weights P t → n ≤ 140737488351232) → ∃ a, d.K w a cs ∧ Fit a
theorem Opens.mono {α : Type} {d : Kd α} {t : TypeId} {Fit Fit' : α → Prop} {f : Nat} (h : Opens P d t Fit f) (hf : ∀ a, Fit a → Fit' a) : Opens P d t Fit' f := fun enc w cs x hx hw => by
  obtain ⟨a, hK, hF⟩ := h enc w cs x hx hw
  exact ⟨a, hK, hf a hF⟩
theorem opens_int (k : IntKind) {t : TypeId} (ht : P.underlying t = some (.int k)) (f : Nat) : Opens P (Kd.int k) t (fun n => (Lit.int k n).wf = true) f := by
  intro H enc w cs x hx hw
  cases f with
  | zero => cases hx
  | succ f =>
    unfold DataW.trod at hx
    simp only [ht] at hx
    split at hx
    all_goals try (simp_all; done)
    next k1 k2 n heq =>
      obtain rfl : k = k1 := by simpa using heq
      split at hx
      next hk =>
        obtain ⟨rfl, hwf⟩ := hk
        exact ⟨_, rfl, hwf⟩
      next => cases hx
theorem opens_bool {t : TypeId} (ht : P.underlying t = some .bool) (f : Nat) : Opens P Kd.bool t (fun _ => True) f := by
  intro H enc w cs x hx hw
  cases f with
  | zero => cases hx
  | succ f =>
    unfold DataW.trod at hx
    simp only [ht] at hx
    split at hx
    all_goals try (simp_all; done)
    exact ⟨_, rfl, trivial⟩
theorem opens_string {t : TypeId} (ht : P.underlying t = some .string) (f : Nat) : Opens P Kd.string t (fun s => s.size ≤ 140737488351232) f := by
  intro H enc w cs x hx hw
  cases f with
  | zero => cases hx
  | succ f =>
    unfold DataW.trod at hx
    simp only [ht] at hx
    split at hx
    all_goals try (simp_all; done)
    split at hx
    next hs =>
      obtain rfl := Option.some.inj hx
      refine ⟨_, rfl, ?_⟩
      have := hw _ (by simp only [DataW.weights]; exact List.mem_singleton.2 rfl)
      simpa using this
    next => cases hx
theorem all_mem {H : Type} {e : TypeId} : ∀ {l : List (DataW H)} {i : Nat} {d : DataW H}, l[i]? = some d → ∀ n, n ∈ d.weights P e → n ∈ DataW.weightsAll P e l
  | [], i, d, h, _, _ => by simp at h
  | x :: l, 0, d, h, n, hn => by
    obtain rfl : x = d := by simpa using h
    simp only [DataW.weightsAll]
    exact List.mem_append_left _ hn
  | x :: l, i + 1, d, h, n, hn => by
    simp only [DataW.weightsAll]
    exact List.mem_append_right _ (all_mem (i := i) (by simpa using h) n hn)
theorem mapM_len {β : Type} {f : Nat → Option β} : ∀ (l : List Nat) (xs : List β), l.mapM f = some xs → xs.length = l.length
  | [], xs, h => by simp at h; simp [h]
  | a :: l, xs, h => by
    rw [List.mapM_cons] at h
    cases ha : f a with
    | none => simp [ha] at h
    | some y =>
      cases hl : l.mapM f with
      | none => simp [ha, hl] at h
      | some ys =>
        have e : y :: ys = xs := by simpa [ha, hl] using h
        subst e
        simp [mapM_len l ys hl]
theorem mapM_at {γ β : Type} {f : γ → Option β} : ∀ (l : List γ) (xs : List β), l.mapM f = some xs → ∀ (i : Nat) (n : γ), l[i]? = some n → ∃ x, f n = some x ∧ xs[i]? = some x
  | [], xs, h, i, n, hn => by simp at hn
  | a :: l, xs, h, i, n, hn => by
    rw [List.mapM_cons] at h
    cases ha : f a with
    | none => simp [ha] at h
    | some y =>
      cases hl : l.mapM f with
      | none => simp [ha, hl] at h
      | some ys =>
        have e : y :: ys = xs := by simpa [ha, hl] using h
        subst e
        cases i with
        | zero =>
          obtain rfl : a = n := by simpa using hn
          exact ⟨y, ha, rfl⟩
        | succ i => exact mapM_at l ys hl i n (by simpa using hn)
theorem choose_list {α : Type} {Q : Nat → α → Prop} : ∀ (n : Nat), (∀ i, i < n → ∃ a, Q i a) → ∃ xs : List α, xs.length = n ∧ ∀ j p, xs[j]? = some p → Q j p
  | 0, _ => ⟨[], rfl, fun j p h => by simp at h⟩
  | n + 1, h => by
    obtain ⟨xs, hl, hq⟩ := choose_list n (fun i hi => h i (by omega))
    obtain ⟨a, ha⟩ := h n (by omega)
    refine ⟨xs ++ [a], by simp [hl], fun j p hj => ?_⟩
    by_cases hjn : j < xs.length
    · exact hq j p (by rwa [List.getElem?_append_left hjn] at hj)
    · have : j < (xs ++ [a]).length := (List.getElem?_eq_some_iff.1 hj).1
      obtain rfl : j = xs.length := by simp at this; omega
      rw [List.getElem?_append_right (Nat.le_refl _)] at hj
      simp at hj
      subst hj
      rw [hl]
      exact ha
theorem opens_slice {α : Type} (d : Kd α) (e' : Nat) {t e : TypeId} (Fit : α → Prop) {B : Nat} (ht : P.underlying t = some (.slice e)) (hsz : P.cellsOf e = d.sz) (hB : P.bytesOf e = B) {f : Nat} (h : ∀ f', f' < f → Opens P d e Fit f') :
    Opens P (Kd.slice e' d) t (fun xs => xs.length * B ≤ 140737488351232 ∧ xs.length ≤ maxLen ∧ ∀ x, x ∈ xs → Fit x) f := by
  intro H enc w cs x hx hw
  cases f with
  | zero => cases hx
  | succ f =>
    unfold DataW.trod at hx
    simp only [ht] at hx
    split at hx
    all_goals try (simp_all; done)
    next => exact ⟨[], ⟨none, 0, rfl, Nat.le_refl _, ⟨rfl, Nat.zero_le _, fun h0 => absurd h0 (Nat.lt_irrefl _)⟩⟩, by simp, Nat.zero_le _, fun x hx => by cases hx⟩
    next e2 a len cap heq =>
      obtain rfl : e = e2 := by simpa using heq
      split at hx
      next hc =>
        obtain ⟨hb, hlc, hcm⟩ := hc
        obtain ⟨elems, hel, hx⟩ := Option.bind_eq_some_iff.1 hx
        obtain ⟨rest, hre, hx⟩ := Option.map_eq_some_iff.1 hx
        subst hx
        have hlen : elems.length = len := by rw [mapM_len _ _ hel, List.length_range]
        have hw' : ∀ n, n ∈ DataW.weights P t (.slice (elems.map (·.1)) (rest.map (·.1))) → n ≤ 140737488351232 := hw
        simp only [DataW.weights, ht] at hw'
        have hsize := hw' _ List.mem_cons_self
        simp only [List.length_map, hlen, hB] at hsize
        have each : ∀ i, i < len → ∃ p, (∃ c, c.length = d.sz ∧ d.K w p c ∧ ∀ j u, c[j]? = some u → w.cell? (a.add (i * d.sz + j)) = some u) ∧ Fit p := by
          intro i hi
          obtain ⟨y, hy, hy2⟩ := mapM_at _ _ hel i i (by rw [List.getElem?_range hi])
          obtain ⟨c, hc1, hc2⟩ := Option.bind_eq_some_iff.1 hy
          obtain ⟨p, hK, hF⟩ := h f (Nat.lt_succ_self f) enc w c y hc2 (fun n hn => hw' n (List.mem_cons_of_mem _ (List.mem_append_left _ (all_mem (l := elems.map (·.1)) (i := i) (d := y.1) (by rw [List.getElem?_map, hy2]; rfl) n hn))))
          obtain ⟨_, hcl, hcell⟩ := World.cells?_some hc1
          refine ⟨p, ⟨c, by rw [hcl, hsz], hK, fun j u hj => ?_⟩, hF⟩
          have hjl : j < P.cellsOf e := by rw [← hcl]; exact (List.getElem?_eq_some_iff.1 hj).1
          have := hcell j hjl
          rw [hj] at this
          rw [show a.add (i * d.sz + j) = (a.add (i * P.cellsOf e)).add j by rw [hsz, Addr.add_add]]
          exact this
        obtain ⟨xs, hxl, hxs⟩ := choose_list len each
        refine ⟨xs, ⟨some a, cap, by rw [hxl], by rw [hxl]; exact hlc, ⟨rfl, by rw [hxl]; unfold maxLen at hcm; omega, fun h0 => ⟨a, rfl, fun j p hj => (hxs j p hj).1⟩⟩⟩, ?_, by rw [hxl]; omega, fun p hp => ?_⟩
        · rw [hxl]
          refine Nat.le_trans ?_ hsize
          exact Nat.mul_le_mul_right _ (Nat.le_add_right _ _)
        · obtain ⟨j, hj, rfl⟩ := List.getElem_of_mem hp
          exact (hxs j _ (List.getElem?_eq_getElem hj)).2
      next => cases hx
/-- The fields of a struct from a place on. -/
def OpensF (P : Program) {α : Type} (d : Kd α) (fs : List Field) (o : Nat) (Fit : α → Prop) (f : Nat) : Prop :=
  ∀ {H : Type} (enc : TypeId × Value → H) (w : World) (cs : List Value) (xs : List (DataW H × List MemPlace)), (fs.mapM fun fl => DataW.trod enc P w 0 (fun _ => true) true f fl.type ((cs.drop fl.offset).take (P.cellsOf fl.type))) = some xs → cs.length = o + d.sz →
    (∀ n, n ∈ DataW.weightsEach P (fs.map (·.type)) (xs.map (·.1)) → n ≤ 140737488351232) → ∃ a, d.K w a (cs.drop o) ∧ Fit a
theorem opensF_one {α : Type} (d : Kd α) (fl : Field) (o : Nat) (Fit : α → Prop) {f : Nat} (ho : fl.offset = o) (hc : P.cellsOf fl.type = d.sz) (h : Opens P d fl.type Fit f) : OpensF P d [fl] o Fit f := by
  intro H enc w cs xs hx hl hw
  subst ho
  rw [List.mapM_cons] at hx
  cases hy : DataW.trod enc P w 0 (fun _ => true) true f fl.type ((cs.drop fl.offset).take (P.cellsOf fl.type)) with
  | none => simp [hy] at hx
  | some y =>
    have e : [y] = xs := by simpa [hy] using hx
    subst e
    obtain ⟨a, hK, hF⟩ := h enc w _ y hy (fun n hn => hw n (by simp only [List.map_cons, List.map_nil, DataW.weightsEach]; exact List.mem_append_left _ hn))
    refine ⟨a, ?_, hF⟩
    rwa [List.take_of_length_le (by rw [List.length_drop, hl, hc]; omega)] at hK
theorem opensF_cons {α β : Type} (d0 : Kd α) (d1 : Kd β) (fl : Field) (fs : List Field) (o : Nat) (Fit0 : α → Prop) (Fit1 : β → Prop) {f : Nat} (ho : fl.offset = o) (hc : P.cellsOf fl.type = d0.sz) (h0 : Opens P d0 fl.type Fit0 f) (h1 : OpensF P d1 fs (o + d0.sz) Fit1 f) : OpensF P (Kd.pair d0 d1) (fl :: fs) o (fun x => Fit0 x.1 ∧ Fit1 x.2) f := by
  intro H enc w cs xs hx hl hw
  subst ho
  have hl' : cs.length = fl.offset + (d0.sz + d1.sz) := hl
  rw [List.mapM_cons] at hx
  cases hy : DataW.trod enc P w 0 (fun _ => true) true f fl.type ((cs.drop fl.offset).take (P.cellsOf fl.type)) with
  | none => simp [hy] at hx
  | some y =>
    cases hys : (fs.mapM fun fl => DataW.trod enc P w 0 (fun _ => true) true f fl.type ((cs.drop fl.offset).take (P.cellsOf fl.type))) with
    | none => simp [hy, hys] at hx
    | some ys =>
      have e : y :: ys = xs := by simpa [hy, hys] using hx
      subst e
      obtain ⟨a, hK, hF⟩ := h0 enc w _ y hy (fun n hn => hw n (by simp only [List.map_cons, DataW.weightsEach]; exact List.mem_append_left _ hn))
      obtain ⟨b, hK1, hF1⟩ := h1 enc w cs ys hys (by omega) (fun n hn => hw n (by simp only [List.map_cons, DataW.weightsEach]; exact List.mem_append_right _ hn))
      refine ⟨(a, b), ⟨_, _, ?_, hK, hK1⟩, hF, hF1⟩
      rw [hc, ← List.drop_drop]
      exact (List.take_append_drop _ _).symm
theorem opens_struct {α β : Type} (d : Kd α) (g : β → α) (mk : α → β) (hg : ∀ a, g (mk a) = a) {t : TypeId} {fs : Array Field} (Fit : β → Prop) {f : Nat} (ht : P.underlying t = some (.struct fs)) (hc : P.cellsOf t = d.sz) (h : ∀ f', f' < f → OpensF P d fs.toList 0 (fun a => Fit (mk a)) f') : Opens P (Kd.iso d g) t Fit f := by
  intro H enc w cs x hx hw
  cases f with
  | zero => cases hx
  | succ f =>
    unfold DataW.trod at hx
    simp only [ht] at hx
    split at hx
    next hl =>
      obtain ⟨xs, hxs, rfl⟩ := Option.map_eq_some_iff.1 hx
      have hw' : ∀ n, n ∈ DataW.weights P t (.agg (xs.map (·.1))) → n ≤ 140737488351232 := hw
      simp only [DataW.weights, ht] at hw'
      obtain ⟨a, hK, hF⟩ := h f (Nat.lt_succ_self f) enc w cs xs hxs (by rw [hl, hc]; omega) hw'
      refine ⟨mk a, ?_, hF⟩
      show d.K w (g (mk a)) cs
      rw [hg]
      exact hK
    next => cases hx
/-- One argument among all: its weights. -/
theorem weights_at {H : Type} {ts : List TypeId} {ds : List (DataW H)} (hsz : (DataW.weightsEach P ts ds).all (· ≤ reachBytes) = true) {j : Nat} {t : TypeId} {d : DataW H} (ht : ts[j]? = some t) (hd : ds[j]? = some d) : ∀ n, n ∈ d.weights P t → n ≤ 140737488351232 := fun n hn => by
  have := List.all_eq_true.1 hsz n (DataW.weights_mem_each ht hd n hn)
  exact of_decide_eq_true this
/-- An argument, whole. -/
theorem open_arg {H : Type} {enc : TypeId × Value → H} {α : Type} {d : Kd α} {t : TypeId} {Fit : α → Prop} (h : ∀ f, Opens P d t Fit f) {w : World} {v : Value} {x : DataW H} {ps : List MemPlace} (hT : DataW.Trod enc P w 0 (fun _ => true) true t v x ps) {ts : List TypeId} {ds : List (DataW H)} (hsz : (DataW.weightsEach P ts ds).all (· ≤ reachBytes) = true) {j : Nat} (ht : ts[j]? = some t) (hd : ds[j]? = some x) : ∃ a, d.K w a v.cells.toList ∧ Fit a := by
  obtain ⟨f, hf⟩ := hT
  exact h f enc w _ _ hf (weights_at hsz ht hd)
end
end Go.Proofs.YtpbfigeaoefcmaaDoor.OP
