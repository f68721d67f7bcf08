/- Plain laws on the told functions of this seat, without memory. Conditions: as each theorem states them. -/
import Derived.Test.YtbfhpjkahobgnaaGreatDoorProg
import Derived.Test.YtbfhpjkahobgnaaGreatDoorHW
import Derived.Below
import Derived.Deep.Draws
import Derived.OwnWalk
import Derived.Tactics
import Derived.WalkKit
import Derived.KernelRfl
import Derived.RowKit3
import Derived.Deep.LoopGhost
import Derived.Deep.QuietTactic
import Derived.BigQuiet
import Derived.WideLaws
import Derived.Deep.DeepCutAuto
import Derived.Deep.CutBlock
import Derived.Laws.Rows
import Derived.Outline
import Derived.StillTailTactics
import Derived.Deep.RegionHeld3
import Derived.Test.YtbfhpjkahobgnaaGreatDoorLt
namespace Go.Proofs.YtbfhpjkahobgnaaGreatDoor.PLo.VT
open Go.RowKit Go.Proofs.YtbfhpjkahobgnaaGreatDoorW.PrintWords Go.Proofs.YtbfhpjkahobgnaaGreatDoorW.PrintLast Go.Proofs.YtbfhpjkahobgnaaGreatDoorW.PrintMore
set_option linter.unusedVariables false
set_option linter.unusedSimpArgs false
/-- A document's, or an array's, value is its elements' bytes. -/
theorem dv_kids (k0 : Int) (h : k0 = 3 ∨ k0 = 4) (t m : ByteArray) (n b hh : Int) (B : List Int) (K : List S73) (l : List Int) (ev : Ev (fun k => spec_DocBytes.f k K) l) : Ev (fun k => spec_DocValue.f k k0 t m n b hh B K) l := by
  rcases h with rfl | rfl
  · exact dv_doc 3 rfl t m n b hh B K l ev
  · refine Ev.step (f := fun k => spec_DocValue.j0 k [] 4 ((4 : Int) == 17) 4 t m n b hh B K) (fun k => by rw [spec_DocValue.f, if_neg (by decide)]) ?_
    refine Ev.step (f := fun k => spec_DocValue.j1 k [] 4 ((4 : Int) == 14) 4 t m n b hh B K) (fun k => by rw [spec_DocValue.j0, if_neg (by decide), if_neg (by decide), if_neg (by decide)]) ?_
    refine Ev.step (f := fun k => spec_DocValue.j2 k [] 4 ((4 : Int) == 4) 4 t m n b hh B K) (fun k => by rw [spec_DocValue.j1, if_neg (by decide), if_neg (by decide)]) ?_
    refine Ev.step (f := fun k => (spec_DocBytes.f k K).bind fun t => some t) (fun k => by rw [spec_DocValue.j2, if_pos (by decide)]) ?_
    exact Ev.bind ev (Ev.now _)
theorem len_bytes (body : List Int) (hb : body.length ≤ 100000) : bsoncore_readLengthBytes.f (docOf body) = some (docOf body, [], true) := by
  have hlen := docOf_length body
  have hr : bsoncore_ReadLength.f (docOf body) = some (((body.length + 5 : Nat) : Int), body ++ [0], true) := readlen _ _ (by omega)
  unfold bsoncore_readLengthBytes.f
  generalize docOf body = D at *
  rw [hr, Option.bind_some, if_pos rfl, if_neg (by omega)]
  dsimp only
  rw [w64 (by omega) (by omega), if_neg (by omega), if_pos (by omega), if_pos (by omega), Int.toNat_natCast, ← hlen, List.take_length, List.drop_length]
theorem doc_elem (body : List Int) (hb : body.length ≤ 100000) : bsoncore_Value_Document.f 3 (docOf body) = some (docOf body) := by
  unfold bsoncore_Value_Document.f bsoncore_ReadDocument.f
  rw [if_pos rfl, len_bytes body hb]
  rfl
theorem arr_elem (body : List Int) (hb : body.length ≤ 100000) : bsoncore_Value_Array.f 4 (docOf body) = some (docOf body) := by
  unfold bsoncore_Value_Array.f bsoncore_ReadArray.f
  rw [if_pos rfl, len_bytes body hb]
  rfl
/-- What the outer search makes of what the inner one tells. -/
def outer (r : Int × List Int × Option (Int × ByteArray)) : Option (Int × List Int × Option (Int × ByteArray)) := if r.2.2.isNone = true then some (r.1, r.2.1, none) else some (0, [], r.2.2)
theorem rd_eb (a : ByteArray) (lv : List Int) (k : Int) : rd (elemBytes a lv k) 0 = k := rfl
/-- An element with the name, a document or an array, and more of the path. -/
theorem look_deep {a : ByteArray} {body : List Int} {kd : Int} (hkd : kd = 3 ∨ kd = 4) (hp : spec_DocPlain.f (a.size + 1) a = some true) (hs : a.size ≤ 65536) (hb : body.length ≤ 100000) (R : List Int) (hR : R.length ≤ 1000000) (nm : ByteArray) (m : ByteArray) (more : List ByteArray) (hsh : Shape kd (docOf body)) (he : a.toList = nm.toList) (x : Int) (h6 : 1 < x) (res : Int × List Int × Option (Int × ByteArray)) (hres : outer res = some res) (h : Ev (fun q => bsoncore_Document_LookupErr.f q (docOf body) (m :: more)) res) : Ev (fun q => bsoncore_Document_LookupErr.l0 q (nm :: m :: more) x (elemBytes a (docOf body) kd ++ R)) res := by
  have hlen := docOf_length body
  have hl : (docOf body).length ≤ 200000 := by omega
  have hel := eb_length a (docOf body) kd
  have hrd : rdOf ByteArray.empty (nm :: m :: more) 0 = nm := rfl
  have hrd3 := rd_eb a (docOf body) kd
  have hke := key_elem hp hs hsh hl
  have hve := value_elem hp hs hsh hl
  have hde := doc_elem body hb
  have hae := arr_elem body hb
  have hrE := read_elem hp hs hsh hl R hR
  refine Ev.step (fun q => by rw [bsoncore_Document_LookupErr.l0, if_pos h6]) ?_
  refine Ev.bind hrE ?_
  generalize elemBytes a (docOf body) kd = E at *
  rcases hkd with rfl | rfl
  · refine Ev.congr (f := fun q => (bsoncore_Element_Value.f q E).bind fun bt330 => ((bsoncore_Value_Document.f bt330.1 bt330.2).bind fun t334 => (if 1 ≤ ((nm :: m :: more).length : Int) then ((bsoncore_Document_LookupErr.f q t334 ((nm :: m :: more).drop 1)).bind outer) else (none)))) (fun q => ?_) ?_
    · rw [if_pos rfl, hke, Option.bind_some, if_pos (by simp only [List.length_cons]; omega), PL.strOfNums_bytesOf, hrd, if_pos he, if_pos (by simp only [List.length_cons]; omega)]
      dsimp only
      rw [if_pos (by omega), hrd3, if_pos rfl]
      rfl
    · refine Ev.bind (a := (3, docOf body)) (Ev.bind hve (Ev.now _)) ?_
      refine Ev.congr (fun q => by rw [hde, Option.bind_some, if_pos (by simp only [List.length_cons]; omega)]) ?_
      exact Ev.bind h (Ev.congr (fun q => hres) (Ev.now _))
  · refine Ev.congr (f := fun q => (bsoncore_Element_Value.f q E).bind fun bt345 => ((bsoncore_Value_Array.f bt345.1 bt345.2).bind fun t349 => (if 1 ≤ ((nm :: m :: more).length : Int) then ((bsoncore_Document_LookupErr.f q t349 ((nm :: m :: more).drop 1)).bind outer) else (none)))) (fun q => ?_) ?_
    · rw [if_pos rfl, hke, Option.bind_some, if_pos (by simp only [List.length_cons]; omega), PL.strOfNums_bytesOf, hrd, if_pos he, if_pos (by simp only [List.length_cons]; omega)]
      dsimp only
      rw [if_pos (by omega), hrd3, if_neg (by decide), if_pos rfl]
      rfl
    · refine Ev.bind (a := (4, docOf body)) (Ev.bind hve (Ev.now _)) ?_
      refine Ev.congr (fun q => by rw [hae, Option.bind_some, if_pos (by simp only [List.length_cons]; omega)]) ?_
      exact Ev.bind h (Ev.congr (fun q => hres) (Ev.now _))
/-- An element with the name, neither a document nor an array, and more of the path. -/
theorem look_other {a : ByteArray} {lv : List Int} {kd : Int} (hk3 : kd ≠ 3) (hk4 : kd ≠ 4) (hp : spec_DocPlain.f (a.size + 1) a = some true) (hs : a.size ≤ 65536) (hsh : Shape kd lv) (hl : lv.length ≤ 200000) (R : List Int) (hR : R.length ≤ 1000000) (nm : ByteArray) (m : ByteArray) (more : List ByteArray) (he : a.toList = nm.toList) (x : Int) (h6 : 1 < x) : Ev (fun q => bsoncore_Document_LookupErr.l0 q (nm :: m :: more) x (elemBytes a lv kd ++ R)) (0, [], some (95, a)) := by
  have hel := eb_length a lv kd
  have hrd : rdOf ByteArray.empty (nm :: m :: more) 0 = nm := rfl
  have hrd3 := rd_eb a lv kd
  have hke := key_elem hp hs hsh hl
  have hrE := read_elem hp hs hsh hl R hR
  have hkk : bsoncore_Element_Key.f (elemBytes a lv kd) = some a := by
    unfold bsoncore_Element_KeyBytes.f at hke
    obtain ⟨⟨z, e⟩, h1, h2⟩ := Option.bind_eq_some_iff.1 hke
    have h2 : z = bytesOf a := Option.some.inj h2
    unfold bsoncore_Element_Key.f bsoncore_Element_KeyErr.f
    rw [h1, Option.bind_some, Option.bind_some, h2, PL.strOfNums_bytesOf]
  refine Ev.step (fun q => by rw [bsoncore_Document_LookupErr.l0, if_pos h6]) ?_
  refine Ev.bind hrE ?_
  generalize elemBytes a lv kd = E at *
  refine Ev.congr (fun q => ?_) (Ev.now _)
  rw [if_pos rfl, hke, Option.bind_some, if_pos (by simp only [List.length_cons]; omega), PL.strOfNums_bytesOf, hrd, if_pos he, if_pos (by simp only [List.length_cons]; omega)]
  dsimp only
  rw [if_pos (by omega), hrd3, if_neg hk3, if_neg hk4, hkk]
  rfl
theorem find_ev (nm : ByteArray) (K : List S73) (hM : K.length ≤ 1000) : ∀ (r pre : List S73), K = pre ++ r → (Ev (fun k => spec_DocFind.l0 k K nm (pre.length : Int)) (-1) ∧ ∀ y, y ∈ r → ¬ y.f0.toList = nm.toList) ∨ ∃ r1 e r2, r = r1 ++ e :: r2 ∧ Ev (fun k => spec_DocFind.l0 k K nm (pre.length : Int)) ((pre.length + r1.length : Nat) : Int) ∧ e.f0.toList = nm.toList ∧ ∀ y, y ∈ r1 → ¬ y.f0.toList = nm.toList := by
  intro r
  induction r with
  | nil => intro pre he; exact Or.inl ⟨Ev.step (fun k => by rw [spec_DocFind.l0, if_neg (by rw [he]; simp)]) (Ev.now _), fun y hy => by simp at hy⟩
  | cons e r ih =>
    intro pre he
    have hlen : K.length = pre.length + (r.length + 1) := by rw [he]; simp
    have he' : rd_T73 K (pre.length : Int) = e := by rw [he]; exact rd_at pre r e
    by_cases hh : e.f0.toList = nm.toList
    · exact Or.inr ⟨[], e, r, rfl, Ev.step (fun k => by rw [spec_DocFind.l0, if_pos (by omega), if_pos (by omega), he', if_pos hh]; rfl) (Ev.now _), hh, fun y hy => by simp at hy⟩
    · have e2 : wrap64 ((pre.length : Int) + 1) = (((pre ++ [e]).length : Nat) : Int) := by rw [w64 (by omega) (by omega)]; simp
      have hg : ∀ k, spec_DocFind.l0 (k + 1) K nm (pre.length : Int) = spec_DocFind.l0 k K nm (((pre ++ [e]).length : Nat) : Int) := fun k => by rw [spec_DocFind.l0, if_pos (by omega), if_pos (by omega), he', if_neg hh, e2]
      rcases ih (pre ++ [e]) (by rw [he]; simp) with ⟨ev, hn⟩ | ⟨r1, x, r2, h1, ev, h3, h4⟩
      · refine Or.inl ⟨Ev.step hg ev, fun y hy => ?_⟩
        rcases List.mem_cons.1 hy with rfl | hy
        · exact hh
        · exact hn y hy
      · refine Or.inr ⟨e :: r1, x, r2, by rw [h1]; rfl, ?_, h3, fun y hy => ?_⟩
        · have := Ev.step (g := fun k => spec_DocFind.l0 k K nm (pre.length : Int)) hg ev
          rw [show (pre ++ [e]).length + r1.length = pre.length + (e :: r1).length by simp only [List.length_append, List.length_cons, List.length_nil]; omega] at this
          exact this
        · rcases List.mem_cons.1 hy with rfl | hy
          · exact hh
          · exact h4 y hy
theorem wr_split {pre : List S73} : ∀ {r : List S73} {body : List Int}, Wr (pre ++ r) body → ∃ bp br, Wr pre bp ∧ Wr r br ∧ body = bp ++ br := by
  induction pre with
  | nil => intro r body h; exact ⟨[], body, .nil, h, rfl⟩
  | cons e pre ih =>
    intro r body h
    cases h with
    | cons _ _ lv b hp hs hk0 hk1 ev hsh hr =>
    obtain ⟨bp, br, h1, h2, h3⟩ := ih hr
    exact ⟨_, br, .cons e pre lv bp hp hs hk0 hk1 ev hsh h1, h2, by rw [h3, List.append_assoc]⟩
theorem szl_mem : ∀ {r : List S73} {n b : Nat}, SzL r n b → ∀ e, e ∈ r → ∃ n1 b1, SzV e.f1 n1 b1 ∧ n1 ≤ n ∧ b1 ≤ b := by
  intro r
  induction r with
  | nil => intro n b _ e he; cases he
  | cons x r ih =>
    intro n b h e he
    cases h with
    | cons _ _ n1 b1 n' b' h1 hr =>
    rcases List.mem_cons.1 he with rfl | he
    · exact ⟨n1, b1, h1, by omega, by omega⟩
    · obtain ⟨n2, b2, h2, a1, a2⟩ := ih hr e he
      exact ⟨n2, b2, h2, by omega, by omega⟩
theorem docrl_mem {rec : SP46 S73 → Option Bool} {arr : Bool} : ∀ (r : List S73) (i : Int), docRL rec arr r i = some true → ∀ e, e ∈ r → rec e.f1 = some true := by
  intro r
  induction r with
  | nil => intro i _ e he; cases he
  | cons x r ih =>
    intro i h e he
    rw [docRL] at h
    obtain ⟨o, ho, h⟩ := Option.bind_eq_some_iff.1 h
    have hot : o = true := by cases o with | true => rfl | false => simp at h
    rw [hot, if_neg (by decide)] at h
    obtain ⟨q, hq, h⟩ := Option.bind_eq_some_iff.1 h
    have hqt : q = true := by cases q with | true => rfl | false => simp at h
    rw [hqt, if_neg (by decide)] at h
    rcases List.mem_cons.1 he with rfl | he
    · rw [hqt] at hq; exact hq
    · exact ih (i + 1) h e he
/-- A right value: what is needed of it. -/
def Fine (v : S46) : Prop := FitV v ∧ ∃ n b d, SzV v n b ∧ n ≤ 300 ∧ b ≤ 5000 ∧ docR d v.f0 v.f1 v.f2 v.f3 v.f4 v.f5 v.f6 v.f7 = some true
theorem fine_kids {v : S46} (h : Fine v) (hk : v.f0 = 3 ∨ v.f0 = 4) : (∃ body, Wr v.f7 body ∧ body.length ≤ 20000) ∧ v.f7.length ≤ 300 ∧ ∀ e, e ∈ v.f7 → Fine e.f1 := by
  obtain ⟨hv, n, b, d, hsz, hn, hb, hr⟩ := h
  have hkk := right_kids d v hr (by rcases hk with h | h <;> simp [h])
  cases hsz with
  | mk _ n b hs =>
  obtain ⟨body, hw, hl⟩ := wr_of (d - 1) (v.f0 == 4) v.f7 n b 0 hs (by omega) (by omega) hv.kid hkk
  have := szl_len hs
  refine ⟨⟨body, hw, by omega⟩, by omega, fun e he => ⟨hv.kid e he, ?_⟩⟩
  obtain ⟨n1, b1, h1, a1, a2⟩ := szl_mem hs e he
  exact ⟨n1, b1, d - 1, h1, by omega, by omega, docrl_mem v.f7 0 hkk e he⟩
/-- What a path leads to, as the search in bytes tells it. -/
def Res (w : S46) (c : Int) (res : Int × List Int × Option (Int × ByteArray)) : Prop :=
  (c = 0 ∧ ∃ lv, res = (w.f0, lv, none) ∧ Ev (fun k => spec_DocValue.f k w.f0 w.f1 w.f2 w.f3 w.f4 w.f5 w.f6 w.f7) lv ∧ lv.length ≤ 200000 ∧ 1 ≤ w.f0 ∧ w.f0 ≤ 255) ∨ (c = 7 ∧ res = (0, [], some (-2, (⟨#[]⟩ : ByteArray)))) ∨ (c = 10 ∧ ∃ x, res = (0, [], some (95, x)))
theorem Res.outer {w : S46} {c : Int} {res : Int × List Int × Option (Int × ByteArray)} (h : Res w c res) : outer res = some res := by
  rcases h with ⟨_, lv, rfl, _⟩ | ⟨_, rfl⟩ | ⟨_, x, rfl⟩ <;> rfl
abbrev zv : S46 := ⟨0, ⟨#[]⟩, ⟨#[]⟩, 0, 0, 0, [], []⟩
theorem lead_ev : ∀ (more names pre : List ByteArray) (v : S46), names = pre ++ more → names.length ≤ 20 → Fine v →
    ∃ (w : S46) (c : Int), Ev (fun k => laws_docLeads.l0 k names (pre.length : Int) v.f0 v.f1 v.f2 v.f3 v.f4 v.f5 v.f6 v.f7) (w.f0, w.f1, w.f2, w.f3, w.f4, w.f5, w.f6, w.f7, c) ∧ (more = [] → c = 0 ∧ w = v) ∧ (more ≠ [] → ¬ (v.f0 = 3 ∨ v.f0 = 4) → c = 10) ∧ (more ≠ [] → v.f0 = 3 ∨ v.f0 = 4 → ∀ body, Wr v.f7 body → body.length ≤ 20000 → ∃ res, Ev (fun k => bsoncore_Document_LookupErr.f k (docOf body) more) res ∧ Res w c res) := by
  intro more
  induction more with
  | nil =>
    intro names pre v he hn hf
    have hl : names.length = pre.length := by rw [he, List.append_nil]
    exact ⟨v, 0, Ev.step (fun k => by rw [laws_docLeads.l0, if_neg (by omega)]) (Ev.now _), fun _ => ⟨rfl, rfl⟩, fun h => absurd rfl h, fun h => absurd rfl h⟩
  | cons nm more ih =>
    intro names pre v he hn hf
    have hl : names.length = pre.length + (more.length + 1) := by rw [he]; simp
    have hrn : rdOf ByteArray.empty names (pre.length : Int) = nm := by
      rw [he]
      unfold rdOf
      rw [Int.toNat_natCast]
      simp
    by_cases hk : v.f0 = 3 ∨ v.f0 = 4
    rotate_left
    · have h3 : ¬ v.f0 = 3 := fun h => hk (Or.inl h)
      have h4 : (v.f0 != 4) = true := bne_iff_ne.mpr (fun h => hk (Or.inr h))
      exact ⟨zv, 10, Ev.step (fun k => by rw [laws_docLeads.l0, if_pos (by omega), if_neg h3, h4]) (Ev.step (fun k => by rw [laws_docLeads.j1, if_pos rfl]) (Ev.now _)), fun h => absurd h (by simp), fun _ _ => rfl, fun _ h => absurd h hk⟩
    · obtain ⟨-, hkl, hkf⟩ := fine_kids hf hk
      have start : ∀ R, Ev (fun k => laws_docLeads.j1 k names (pre.length : Int) false v.f0 v.f1 v.f2 v.f3 v.f4 v.f5 v.f6 v.f7) R → Ev (fun k => laws_docLeads.l0 k names (pre.length : Int) v.f0 v.f1 v.f2 v.f3 v.f4 v.f5 v.f6 v.f7) R := fun R hR => Ev.step (fun k => by
        rw [laws_docLeads.l0, if_pos (by omega)]
        rcases hk with h | h
        · rw [if_pos h]
        · rw [if_neg (by omega), show (v.f0 != 4) = false by rw [h]; rfl]) hR
      rcases find_ev nm v.f7 (by omega) v.f7 [] rfl with ⟨evf, hno⟩ | ⟨r1, e, r2, hr, evf, hee, hno⟩
      · refine ⟨zv, 7, start _ (Ev.step (f := fun k => (spec_DocFind.f k v.f7 nm).bind fun t500 => if t500 < 0 then some (0, (⟨#[]⟩ : ByteArray), (⟨#[]⟩ : ByteArray), 0, 0, 0, ([] : List Int), ([] : List S73), 7) else _) (fun k => by rw [laws_docLeads.j1, if_neg (by decide), if_pos (by omega), if_pos (by omega), hrn]) (Ev.bind (show Ev (fun k => spec_DocFind.f k v.f7 nm) (-1) from evf) (Ev.congr (fun k => if_pos (by decide)) (Ev.now _)))), fun h => absurd h (by simp), fun _ h => absurd hk h, fun _ _ body hw hb => ⟨_, ?_, Or.inr (Or.inl ⟨rfl, rfl⟩)⟩⟩
        refine look_in body (by omega) nm more _ ?_
        have := look_past hw nm more [0] (by simp only [List.length_cons, List.length_nil]; omega) (0, [], some (-2, (⟨#[]⟩ : ByteArray))) hno 1 (by omega) (by omega) (Ev.step (fun q => by rw [bsoncore_Document_LookupErr.l0, if_neg (by omega)]) (Ev.now _))
        rw [show (1 : Int) + (body.length : Int) = (body.length : Int) + 1 by omega] at this
        exact this
      · have hrl : v.f7.length = r1.length + (r2.length + 1) := by rw [hr]; simp
        rw [List.length_nil, Nat.zero_add] at evf
        have hrd : rd_T73 v.f7 (r1.length : Int) = e := by rw [hr]; exact rd_at r1 r2 e
        have hem : e ∈ v.f7 := by rw [hr]; simp
        have hfe := hkf e hem
        obtain ⟨w, c, ev, i1, i2, i3⟩ := ih names (pre ++ [nm]) e.f1 (by rw [he]; simp) hn hfe
        have e2 : wrap64 ((pre.length : Int) + 1) = (((pre ++ [nm]).length : Nat) : Int) := by rw [w64 (by omega) (by omega)]; simp
        refine ⟨w, c, start _ (Ev.step (f := fun k => (spec_DocFind.f k v.f7 nm).bind fun t500 => if t500 < 0 then _ else (if 0 ≤ t500 then (if t500 < (v.f7.length : Int) then (laws_docLeads.l0 k names (wrap64 ((pre.length : Int) + 1)) ((rd_T73 v.f7 t500).f1.f0) ((rd_T73 v.f7 t500).f1.f1) ((rd_T73 v.f7 t500).f1.f2) ((rd_T73 v.f7 t500).f1.f3) ((rd_T73 v.f7 t500).f1.f4) ((rd_T73 v.f7 t500).f1.f5) ((rd_T73 v.f7 t500).f1.f6) ((rd_T73 v.f7 t500).f1.f7)) else (none)) else (none))) (fun k => by rw [laws_docLeads.j1, if_neg (by decide), if_pos (by omega), if_pos (by omega), hrn]) (Ev.bind (show Ev (fun k => spec_DocFind.f k v.f7 nm) (r1.length : Int) from evf) (Ev.congr (fun k => ?_) ev))), fun h => absurd h (by simp), fun _ h => absurd hk h, fun _ _ body hw hb => ?_⟩
        · rw [if_neg (by omega), if_pos (by omega), if_pos (by omega), hrd, e2]
        · rw [hr] at hw
          obtain ⟨bp, br, w1, w2, hbb⟩ := wr_split hw
          subst hbb
          rw [List.length_append] at hb
          cases w2 with
          | cons _ _ lv b2 hp hs hk0 hk1 evl hsh hrr =>
          have hel := eb_length e.f0 lv e.f1.f0
          rw [List.length_append] at hb
          have inn : ∀ res, Ev (fun q => bsoncore_Document_LookupErr.l0 q (nm :: more) (((elemBytes e.f0 lv e.f1.f0 ++ b2).length : Int) + 1) (elemBytes e.f0 lv e.f1.f0 ++ (b2 ++ [0]))) res → Ev (fun k => bsoncore_Document_LookupErr.f k (docOf (bp ++ (elemBytes e.f0 lv e.f1.f0 ++ b2))) (nm :: more)) res := fun res hres => by
            have l1 : (bp ++ (elemBytes e.f0 lv e.f1.f0 ++ b2)).length = bp.length + (elemBytes e.f0 lv e.f1.f0 ++ b2).length := List.length_append
            have l2 : (elemBytes e.f0 lv e.f1.f0 ++ b2).length = (elemBytes e.f0 lv e.f1.f0).length + b2.length := List.length_append
            have l3 : ((elemBytes e.f0 lv e.f1.f0 ++ b2) ++ [0]).length = (elemBytes e.f0 lv e.f1.f0 ++ b2).length + 1 := by rw [List.length_append]; rfl
            refine look_in _ (by omega) nm more _ ?_
            have := look_past w1 nm more ((elemBytes e.f0 lv e.f1.f0 ++ b2) ++ [0]) (by omega) res hno (((elemBytes e.f0 lv e.f1.f0 ++ b2).length : Int) + 1) (by omega) (by omega) (by rw [List.append_assoc (elemBytes e.f0 lv e.f1.f0)]; exact hres)
            rw [← List.append_assoc, show ((elemBytes e.f0 lv e.f1.f0 ++ b2).length : Int) + 1 + (bp.length : Int) = ((bp ++ (elemBytes e.f0 lv e.f1.f0 ++ b2)).length : Int) + 1 by omega] at this
            exact this
          have hR : (b2 ++ [0]).length ≤ 1000000 := by rw [List.length_append]; simp only [List.length_cons, List.length_nil]; omega
          have hx : 1 < ((elemBytes e.f0 lv e.f1.f0 ++ b2).length : Int) + 1 := by rw [List.length_append]; omega
          cases more with
          | nil =>
            obtain ⟨rfl, rfl⟩ := i1 rfl
            exact ⟨_, inn _ (look_hit hp hs hsh (by omega) (b2 ++ [0]) hR nm hee _ hx), Or.inl ⟨rfl, lv, rfl, evl, by omega, hk0, hk1⟩⟩
          | cons m more =>
            by_cases hke : e.f1.f0 = 3 ∨ e.f1.f0 = 4
            · obtain ⟨⟨body', hw', hb'⟩, hkl', -⟩ := fine_kids hfe hke
              have hM' : e.f1.f7.length ≤ M := by show _ ≤ 140737488351232; omega
              have hlv := Ev.uniq_ evl (dv_kids e.f1.f0 hke e.f1.f1 e.f1.f2 e.f1.f3 e.f1.f4 e.f1.f5 e.f1.f6 e.f1.f7 _ (wr_doc hw' hM' (by omega)))
              subst hlv
              obtain ⟨res, hres, hR'⟩ := i3 (by simp) hke body' hw' hb'
              exact ⟨res, inn _ (look_deep hke hp hs (by omega) (b2 ++ [0]) hR nm m more hsh hee _ hx res hR'.outer hres), hR'⟩
            · have hc := i2 (by simp) hke
              exact ⟨_, inn _ (look_other (fun h => hke (Or.inl h)) (fun h => hke (Or.inr h)) hp hs hsh (by omega) (b2 ++ [0]) hR nm m more hee _ hx), Or.inr (Or.inr ⟨hc, _, rfl⟩)⟩

end Go.Proofs.YtbfhpjkahobgnaaGreatDoor.PLo.VT
