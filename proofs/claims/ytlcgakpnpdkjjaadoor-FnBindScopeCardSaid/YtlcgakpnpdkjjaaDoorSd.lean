/- A document in a document is found by its name, and its values by theirs: the law FnBindScope in plain words. Conditions: as each theorem states them. -/
import Derived.Test.YtlcgakpnpdkjjaaDoorProg
import Derived.Test.YtlcgakpnpdkjjaaDoorHW
import Derived.Below
import Derived.Deep.Draws
import Derived.OwnWalk
import Derived.Tactics
import Derived.WalkKit
import Derived.KernelRfl
import Derived.RowKit3
import Derived.Deep.LoopGhost
import Derived.Deep.QuietTactic
import Derived.BigQuiet
import Derived.WideLaws
import Derived.Deep.DeepCutAuto
import Derived.Deep.CutBlock
import Derived.Laws.Rows
import Derived.Outline
import Derived.StillTailTactics
import Derived.Deep.RegionHeld3
import Derived.Test.YtlcgakpnpdkjjaaDoorSc
import Derived.Test.YtlcgakpnpdkjjaaDoorPBzx14
namespace Go.Proofs.YtlcgakpnpdkjjaaDoor.PBz.VT
open Go.RowKit Go.Proofs.YtlcgakpnpdkjjaaDoorW.PrintWords Go.Proofs.YtlcgakpnpdkjjaaDoorW.PrintLast Go.Proofs.YtlcgakpnpdkjjaaDoorW.PrintMore
set_option linter.unusedVariables false
set_option linter.unusedSimpArgs false
/-- An element that stands ahead of more bytes is read. -/
theorem rd_name (a : ByteArray) (lv : List Int) (k : Int) (R : List Int) (j : Nat) (hj : j < a.size) : rd (elemBytes a lv k ++ R) ((j + 1 : Nat) : Int) = ((a.get! j).toNat : Int) := by
  have e : elemBytes a lv k ++ R = k :: (bytesOf a ++ (0 :: lv ++ R)) := by simp [elemBytes]
  have e3 := PL.bt_get a (j : Int) (by omega) (by omega)
  rw [Int.toNat_natCast] at e3
  rw [← e3, ← rd_bytesOf, e]
  unfold rd
  rw [Int.toNat_natCast, Int.toNat_natCast, List.getD_cons_succ, List.getD_eq_getElem?_getD, List.getD_eq_getElem?_getD, List.getElem?_append_left (by rw [bytesOf_length]; exact hj)]
theorem rd_zero (a : ByteArray) (lv : List Int) (k : Int) (R : List Int) : rd (elemBytes a lv k ++ R) ((a.size + 1 : Nat) : Int) = 0 := by
  have e : elemBytes a lv k ++ R = k :: (bytesOf a ++ (0 :: lv ++ R)) := by simp [elemBytes]
  rw [e]
  unfold rd
  rw [Int.toNat_natCast, List.getD_cons_succ, List.getD_eq_getElem?_getD, List.getElem?_append_right (by rw [bytesOf_length]; exact Nat.le_refl _), bytesOf_length, Nat.sub_self]
  rfl
theorem eb_rest2 (a : ByteArray) (lv : List Int) (k : Int) (R : List Int) : (elemBytes a lv k ++ R).drop (a.size + 2) = lv ++ R := by
  rw [List.drop_append_of_le_length (by rw [eb_length]; omega), eb_rest]
theorem read_end {a : ByteArray} {lv : List Int} {k : Int} (hp : spec_DocPlain.f (a.size + 1) a = some true) (hs : a.size ≤ 65536) (hsh : Shape k lv) (hl : lv.length ≤ 200000) (R : List Int) (hR : R.length ≤ 1000000) : Ev (fun q => bsoncore_ReadElement.l0 q (elemBytes a lv k ++ R) k ((a.size + 1 : Nat) : Int)) (elemBytes a lv k, R, true) := by
  have hlen := eb_length a lv k
  have hz := rd_zero a lv k R
  have hr := eb_rest2 a lv k R
  have hla : (elemBytes a lv k ++ R).length = a.size + lv.length + 2 + R.length := by rw [List.length_append, hlen]
  have ht : (elemBytes a lv k ++ R).take (elemBytes a lv k).length = elemBytes a lv k := List.take_left
  have hd : (elemBytes a lv k ++ R).drop (elemBytes a lv k).length = R := List.drop_left
  rw [hlen] at ht hd
  generalize elemBytes a lv k ++ R = L at *
  have e1 : wrap64 (((a.size + 1 : Nat) : Int) + 1) = ((a.size + 2 : Nat) : Int) := by rw [w64 (by omega) (by omega)]; omega
  have e2 : wrap64 (wrap64 (((a.size + 1 : Nat) : Int) + 1) + wrap64 (lv.length : Int)) = ((a.size + lv.length + 2 : Nat) : Int) := by rw [e1, w64 (x := (lv.length : Int)) (by omega) (by omega), w64 (by omega) (by omega)]; omega
  refine Ev.step (f := fun q => bsoncore_ReadElement.j1 q L k ((a.size + 1 : Nat) : Int) (rd L ((a.size + 1 : Nat) : Int) != 0)) (fun q => by rw [bsoncore_ReadElement.l0, if_pos (by omega), if_pos (by omega)]) ?_
  rw [hz]
  refine Ev.step (f := fun q => (bsoncore_valueLength.f q (L.drop (a.size + 2)) k).bind fun bt => (if bt.2 = true then (if (wrap64 ((wrap64 (((a.size + 1 : Nat) : Int) + 1)) + (wrap64 (bt.1)))) > (L.length : Int) then (some (([] : List Int), L, false)) else (if 0 ≤ (wrap64 ((wrap64 (((a.size + 1 : Nat) : Int) + 1)) + (wrap64 (bt.1)))) then (if (wrap64 ((wrap64 (((a.size + 1 : Nat) : Int) + 1)) + (wrap64 (bt.1)))) ≤ (L.length : Int) then (some ((L.take ((wrap64 ((wrap64 (((a.size + 1 : Nat) : Int) + 1)) + (wrap64 (bt.1)))) : Int).toNat), (L.drop ((wrap64 ((wrap64 (((a.size + 1 : Nat) : Int) + 1)) + (wrap64 (bt.1)))) : Int).toNat), true)) else (none)) else (none))) else (some (([] : List Int), L, false)))) (fun q => ?_) ?_
  · rw [bsoncore_ReadElement.j1, if_neg (by decide), if_neg (by omega), if_pos (by rw [e1]; omega), if_pos (by rw [e1, hla]; omega), show (wrap64 (((a.size + 1 : Nat) : Int) + 1)).toNat = a.size + 2 by rw [e1, Int.toNat_natCast]]
  · rw [hr]
    refine Ev.bind (shape_length hsh hl R) ?_
    refine Ev.congr (fun q => ?_) (Ev.now _)
    rw [if_pos rfl]
    simp only [e2]
    rw [if_neg (by omega), if_pos (by omega), if_pos (by omega), Int.toNat_natCast, ht, hd]
theorem read_elem {a : ByteArray} {lv : List Int} {k : Int} (hp : spec_DocPlain.f (a.size + 1) a = some true) (hs : a.size ≤ 65536) (hsh : Shape k lv) (hl : lv.length ≤ 200000) (R : List Int) (hR : R.length ≤ 1000000) : Ev (fun q => bsoncore_ReadElement.f q (elemBytes a lv k ++ R)) (elemBytes a lv k, R, true) := by
  have hlen : (elemBytes a lv k ++ R).length = a.size + lv.length + 2 + R.length := by rw [List.length_append, eb_length]
  have hpl := plain_nz a (by omega) hp
  have scan : ∀ j, j ≤ a.size → Ev (fun q => bsoncore_ReadElement.l0 q (elemBytes a lv k ++ R) k ((a.size - j + 1 : Nat) : Int)) (elemBytes a lv k, R, true) := by
    intro j
    induction j with
    | zero => intro _; exact read_end hp hs hsh hl R hR
    | succ j ih =>
      intro hj
      have h1 := ih (by omega)
      have hx := rd_name a lv k R (a.size - (j + 1)) (by omega)
      have hne := hpl (a.size - (j + 1)) (by omega)
      have hb : (rd (elemBytes a lv k ++ R) ((a.size - (j + 1) + 1 : Nat) : Int) != 0) = true := by
        rw [hx, bne_iff_ne]
        intro h0
        exact hne (UInt8.toNat_inj.1 (by show _ = 0; omega))
      refine Ev.step (f := fun q => bsoncore_ReadElement.j1 q (elemBytes a lv k ++ R) k ((a.size - (j + 1) + 1 : Nat) : Int) true) (fun q => by rw [bsoncore_ReadElement.l0, if_pos (by omega), if_pos (by omega), hb]) ?_
      refine Ev.step (f := fun q => bsoncore_ReadElement.l0 q (elemBytes a lv k ++ R) k ((a.size - j + 1 : Nat) : Int)) (fun q => ?_) h1
      rw [bsoncore_ReadElement.j1, if_pos rfl, show wrap64 (((a.size - (j + 1) + 1 : Nat) : Int) + 1) = ((a.size - j + 1 : Nat) : Int) by rw [w64 (by omega) (by omega)]; omega]
  have h0 := scan a.size (Nat.le_refl _)
  rw [Nat.sub_self] at h0
  refine Ev.congr (fun q => ?_) h0
  unfold bsoncore_ReadElement.f
  rw [if_neg (by omega), if_pos (by omega)]
  rfl
theorem key_elem {a : ByteArray} {lv : List Int} {k : Int} (hp : spec_DocPlain.f (a.size + 1) a = some true) (hs : a.size ≤ 65536) (hsh : Shape k lv) (hl : lv.length ≤ 200000) : bsoncore_Element_KeyBytes.f (elemBytes a lv k) = some (bytesOf a) := by
  have hlen := eb_length a lv k
  have hn := eb_name a lv k
  have hi : bytes_IndexByte.f ((elemBytes a lv k).drop 1) 0 = some (a.size : Int) := idx_plain a (by omega) hp lv
  unfold bsoncore_Element_KeyBytes.f bsoncore_Element_KeyBytesErr.f
  generalize elemBytes a lv k = L at *
  rw [if_neg (by omega), if_pos (by omega), hi, Option.bind_some, if_neg (by omega), w64 (by omega) (by omega), if_pos (by omega), if_pos (by omega), show ((a.size : Int) + 1).toNat = a.size + 1 by omega, hn]
  rfl
theorem value_elem {a : ByteArray} {lv : List Int} {k : Int} (hp : spec_DocPlain.f (a.size + 1) a = some true) (hs : a.size ≤ 65536) (hsh : Shape k lv) (hl : lv.length ≤ 200000) : Ev (fun q => bsoncore_Element_ValueErr.f q (elemBytes a lv k)) (k, lv, none) := by
  have hlen := eb_length a lv k
  have hi : bytes_IndexByte.f ((elemBytes a lv k).drop 1) 0 = some (a.size : Int) := idx_plain a (by omega) hp lv
  have hr := eb_rest a lv k
  have hrd : rd (elemBytes a lv k) 0 = k := rfl
  have evr : Ev (fun q => bsoncore_ReadValue.f q lv k) (k, lv, [], true) := by
    have e1 : Ev (fun q => bsoncore_readValue.f q lv k) (lv, [], true) := by
      have hs' := shape_length hsh hl []
      rw [List.append_nil] at hs'
      refine Ev.bind hs' ⟨1, fun q hq => ?_⟩
      obtain ⟨q, rfl⟩ : ∃ r, q = r + 1 := ⟨q - 1, by omega⟩
      show (if true = true then bsoncore_readValue.j0 (q + 1) lv (lv.length : Int) (decide (wrap64 (lv.length : Int) > (lv.length : Int))) else _) = _
      rw [if_pos rfl, w64 (by omega) (by omega), decide_eq_false (by omega), bsoncore_readValue.j0, if_neg (by decide), if_pos (by omega), if_pos (by omega), Int.toNat_natCast, List.take_length, List.drop_length]
    refine Ev.bind e1 ⟨0, fun q _ => ?_⟩
    rfl
  generalize elemBytes a lv k = L at *
  refine Ev.congr (f := fun q => (bsoncore_ReadValue.f q lv k).bind fun bt => (if bt.2.2.2 = true then (some (bt.1, bt.2.1, none)) else (none))) (fun q => ?_) (Ev.bind evr ?_)
  · unfold bsoncore_Element_ValueErr.f
    rw [if_neg (by omega), if_pos (by omega), hi, Option.bind_some, if_neg (by omega), w64 (by omega) (by omega), if_pos (by omega), if_pos (by omega), if_pos (by omega), show ((a.size : Int) + 2).toNat = a.size + 2 by omega, hr, hrd]
  · exact Ev.congr (fun q => by rw [if_pos rfl]) (Ev.now _)
/-- An element with another name is passed by. -/
theorem look_skip {a : ByteArray} {lv : List Int} {k : Int} (hp : spec_DocPlain.f (a.size + 1) a = some true) (hs : a.size ≤ 65536) (hsh : Shape k lv) (hl : lv.length ≤ 200000) (R : List Int) (hR : R.length ≤ 1000000) (nm : ByteArray) (more : List ByteArray) (hne : ¬ a.toList = nm.toList) (x : Int) (h6 : 1 < x) (h6' : x ≤ 2000000) (res : Int × List Int × Option Int) (h : Ev (fun q => bsoncore_Document_LookupErr.l0 q (nm :: more) (x - (elemBytes a lv k).length) R) res) : Ev (fun q => bsoncore_Document_LookupErr.l0 q (nm :: more) x (elemBytes a lv k ++ R)) res := by
  have hlen := eb_length a lv k
  have hrd : rdOf ByteArray.empty (nm :: more) 0 = nm := rfl
  have hk : 0 < ((nm :: more).length : Int) := by simp only [List.length_cons]; omega
  have e1 : wrap32 (x - wrap32 ((elemBytes a lv k).length : Int)) = x - ((elemBytes a lv k).length : Int) := by rw [w32 (x := ((elemBytes a lv k).length : Int)) (by omega) (by omega), w32 (by omega) (by omega)]
  refine Ev.step (fun q => by rw [bsoncore_Document_LookupErr.l0, if_pos (by omega)]) ?_
  refine Ev.bind (read_elem hp hs hsh hl R hR) ?_
  refine Ev.congr (fun q => ?_) h
  rw [if_pos rfl, key_elem hp hs hsh hl, Option.bind_some, if_pos hk, PL.strOfNums_bytesOf, hrd, if_neg hne]
  show bsoncore_Document_LookupErr.l0 q (nm :: more) (wrap32 (x - wrap32 ((elemBytes a lv k).length : Int))) R = _
  rw [e1]
/-- An element with the name, the last one of the path. -/
theorem look_hit {a : ByteArray} {lv : List Int} {k : Int} (hp : spec_DocPlain.f (a.size + 1) a = some true) (hs : a.size ≤ 65536) (hsh : Shape k lv) (hl : lv.length ≤ 200000) (R : List Int) (hR : R.length ≤ 1000000) (nm : ByteArray) (he : a.toList = nm.toList) (x : Int) (h6 : 1 < x) : Ev (fun q => bsoncore_Document_LookupErr.l0 q [nm] x (elemBytes a lv k ++ R)) (k, lv, none) := by
  have hrd : rdOf ByteArray.empty [nm] 0 = nm := rfl
  refine Ev.step (fun q => by rw [bsoncore_Document_LookupErr.l0, if_pos h6]) ?_
  refine Ev.bind (read_elem hp hs hsh hl R hR) ?_
  refine Ev.congr (f := fun q => (bsoncore_Element_ValueErr.f q (elemBytes a lv k)).bind fun bt => (some (bt.1, bt.2.1, bt.2.2))) (fun q => ?_) (Ev.bind (value_elem hp hs hsh hl) (Ev.now _))
  rw [if_pos rfl, key_elem hp hs hsh hl, Option.bind_some, if_pos (by simp), PL.strOfNums_bytesOf, hrd, if_pos he, if_neg (by simp)]
/-- What stands ahead, under other names, is passed by. -/
theorem look_past {r : List S34} {bp : List Int} (h : Wr r bp) (nm : ByteArray) (more : List ByteArray) (R : List Int) (hR : bp.length + R.length ≤ 200000) (res : Int × List Int × Option Int) : (∀ e, e ∈ r → ¬ e.f0.toList = nm.toList) → ∀ x : Int, 1 ≤ x → x + bp.length ≤ 1000000 → Ev (fun q => bsoncore_Document_LookupErr.l0 q (nm :: more) x R) res → Ev (fun q => bsoncore_Document_LookupErr.l0 q (nm :: more) (x + bp.length) (bp ++ R)) res := by
  induction h with
  | nil => intro _ x h1 h2 hx; simpa using hx
  | cons e r lv body hp hs hk0 hk1 ev hsh hr ih =>
    intro hn x h1 h2 hx
    have hel := eb_length e.f0 lv e.f1.f0
    rw [List.length_append] at hR h2
    have h3 := ih (by omega) (fun y hy => hn y (by simp [hy])) x h1 (by omega) hx
    rw [List.append_assoc]
    refine look_skip hp hs hsh (by omega) (body ++ R) (by rw [List.length_append]; omega) nm more (hn e (by simp)) _ (by rw [List.length_append]; omega) (by rw [List.length_append]; omega) res ?_
    rw [show x + (((elemBytes e.f0 lv e.f1.f0 ++ body).length : Nat) : Int) - ((elemBytes e.f0 lv e.f1.f0).length : Int) = x + (body.length : Int) by rw [List.length_append]; omega]
    exact h3
theorem look_in (body : List Int) (hb : body.length ≤ 200000) (nm : ByteArray) (more : List ByteArray) (res : Int × List Int × Option Int) (h : Ev (fun q => bsoncore_Document_LookupErr.l0 q (nm :: more) ((body.length : Int) + 1) (body ++ [0])) res) : Ev (fun q => bsoncore_Document_LookupErr.f q (docOf body) (nm :: more)) res := by
  have hr : bsoncore_ReadLength.f (docOf body) = some (((body.length + 5 : Nat) : Int), body ++ [0], true) := readlen _ _ (by omega)
  refine Ev.step (fun q => ?_) h
  rw [bsoncore_Document_LookupErr.f, if_neg (by simp only [List.length_cons]; omega), hr, Option.bind_some, if_pos rfl]
  dsimp only
  rw [w32 (by omega) (by omega), show ((body.length + 5 : Nat) : Int) - 4 = (body.length : Int) + 1 by omega]
/-- By the name of one of its elements something is found in a document. -/
theorem look_some {r : List S34} {bp : List Int} (h : Wr r bp) (nm : ByteArray) (R : List Int) (hR : bp.length + R.length ≤ 200000) : (∃ e, e ∈ r ∧ e.f0.toList = nm.toList) → ∀ x : Int, 1 ≤ x → x + bp.length ≤ 1000000 → ∃ k lv, Ev (fun q => bsoncore_Document_LookupErr.l0 q [nm] (x + bp.length) (bp ++ R)) (k, lv, none) ∧ 1 ≤ k ∧ k ≤ 255 ∧ lv.length ≤ 200000 := by
  induction h with
  | nil => rintro ⟨e, he, _⟩; simp at he
  | cons e r lv body hp hs hk0 hk1 ev hsh hr ih =>
    intro hn x h1 h2
    have hel := eb_length e.f0 lv e.f1.f0
    rw [List.length_append] at hR h2
    by_cases hh : e.f0.toList = nm.toList
    · rw [List.append_assoc]
      exact ⟨e.f1.f0, lv, look_hit hp hs hsh (by omega) (body ++ R) (by rw [List.length_append]; omega) nm hh _ (by rw [List.length_append]; omega), hk0, hk1, by omega⟩
    · obtain ⟨k, l, h3, a1, a2, a3⟩ := ih (by omega) (by
        obtain ⟨y, hy, hyn⟩ := hn
        rcases List.mem_cons.1 hy with rfl | hy
        · exact absurd hyn hh
        · exact ⟨y, hy, hyn⟩) x h1 (by omega)
      refine ⟨k, l, ?_, a1, a2, a3⟩
      rw [List.append_assoc]
      refine look_skip hp hs hsh (by omega) (body ++ R) (by rw [List.length_append]; omega) nm [] hh _ (by rw [List.length_append]; omega) (by rw [List.length_append]; omega) _ ?_
      rw [show x + (((elemBytes e.f0 lv e.f1.f0 ++ body).length : Nat) : Int) - ((elemBytes e.f0 lv e.f1.f0).length : Int) = x + (body.length : Int) by rw [List.length_append]; omega]
      exact h3

theorem doc_elem (body : List Int) (hb : body.length ≤ 100000) : bsoncore_Value_Document.f 3 (docOf body) = some (docOf body) := by
  have hlen := docOf_length body
  have hr : bsoncore_ReadLength.f (docOf body) = some (((body.length + 5 : Nat) : Int), body ++ [0], true) := readlen _ _ (by omega)
  unfold bsoncore_Value_Document.f bsoncore_ReadDocument.f bsoncore_readLengthBytes.f
  generalize docOf body = D at *
  rw [if_pos rfl, hr, Option.bind_some, if_pos rfl, if_neg (by omega)]
  dsimp only
  rw [w64 (by omega) (by omega), if_neg (by omega), if_pos (by omega), if_pos (by omega), Int.toNat_natCast, ← hlen, List.take_length, List.drop_length]
  rfl
/-- An element with the name, a document, and more of the path. -/
theorem look_doc {a : ByteArray} {body : List Int} (hp : spec_DocPlain.f (a.size + 1) a = some true) (hs : a.size ≤ 65536) (hb : body.length ≤ 100000) (R : List Int) (hR : R.length ≤ 1000000) (nm : ByteArray) (m : ByteArray) (more : List ByteArray) (hsh : Shape 3 (docOf body)) (he : a.toList = nm.toList) (x : Int) (h6 : 1 < x) (k : Int) (v : List Int) (h : Ev (fun q => bsoncore_Document_LookupErr.f q (docOf body) (m :: more)) (k, v, none)) : Ev (fun q => bsoncore_Document_LookupErr.l0 q (nm :: m :: more) x (elemBytes a (docOf body) 3 ++ R)) (k, v, none) := by
  have hlen := docOf_length body
  have hl : (docOf body).length ≤ 200000 := by omega
  have hel := eb_length a (docOf body) 3
  have hrd : rdOf ByteArray.empty (nm :: m :: more) 0 = nm := rfl
  have hrd3 : rd (elemBytes a (docOf body) 3) 0 = 3 := rfl
  have hke := key_elem hp hs hsh hl
  have hve := value_elem hp hs hsh hl
  have hde := doc_elem body hb
  have hrE := read_elem hp hs hsh hl R hR
  refine Ev.step (fun q => by rw [bsoncore_Document_LookupErr.l0, if_pos h6]) ?_
  refine Ev.bind hrE ?_
  generalize elemBytes a (docOf body) 3 = E at *
  refine Ev.congr (f := fun q => (bsoncore_Element_Value.f q E).bind fun bt599 => ((bsoncore_Value_Document.f bt599.1 bt599.2).bind fun t603 => (if 1 ≤ ((nm :: m :: more).length : Int) then ((bsoncore_Document_LookupErr.f q t603 ((nm :: m :: more).drop 1)).bind fun bt607 => (if bt607.2.2.isNone = true then (some (bt607.1, bt607.2.1, none)) else (none))) else (none)))) (fun q => ?_) ?_
  · rw [if_pos rfl, hke, Option.bind_some, if_pos (by simp only [List.length_cons]; omega), PL.strOfNums_bytesOf, hrd, if_pos he, if_pos (by simp only [List.length_cons]; omega)]
    dsimp only
    rw [if_pos (by omega), hrd3, if_pos rfl]
  · refine Ev.bind (a := (3, docOf body)) (Ev.bind hve (Ev.now _)) ?_
    refine Ev.congr (fun q => by rw [hde, Option.bind_some, if_pos (by simp only [List.length_cons]; omega)]) ?_
    exact Ev.bind h (Ev.congr (f := fun _ => some (k, v, none)) (fun q => rfl) (Ev.now _))

theorem find_ev (nm : ByteArray) (K : List S34) (hM : K.length ≤ 1000) : ∀ (r pre : List S34), K = pre ++ r → (∃ j : Int, 0 ≤ j ∧ Ev (fun k => spec_DocFind.l0 k K nm (pre.length : Int)) j) ∨ (Ev (fun k => spec_DocFind.l0 k K nm (pre.length : Int)) (-1) ∧ ∀ e, e ∈ r → ¬ e.f0.toList = nm.toList) := by
  intro r
  induction r with
  | nil => intro pre he; exact Or.inr ⟨Ev.step (fun k => by rw [spec_DocFind.l0, if_neg (by rw [he]; simp)]) (Ev.now _), fun e h => by simp at h⟩
  | cons e r ih =>
    intro pre he
    have hlen : K.length = pre.length + (r.length + 1) := by rw [he]; simp
    have he' : rd_T34 K (pre.length : Int) = e := by rw [he]; exact rd_at pre r e
    by_cases hh : e.f0.toList = nm.toList
    · exact Or.inl ⟨(pre.length : Int), by omega, Ev.step (fun k => by rw [spec_DocFind.l0, if_pos (by omega), if_pos (by omega), he', if_pos hh]) (Ev.now _)⟩
    · have e2 : wrap64 ((pre.length : Int) + 1) = (((pre ++ [e]).length : Nat) : Int) := by rw [w64 (by omega) (by omega)]; simp
      have hg : ∀ k, spec_DocFind.l0 (k + 1) K nm (pre.length : Int) = spec_DocFind.l0 k K nm (((pre ++ [e]).length : Nat) : Int) := fun k => by rw [spec_DocFind.l0, if_pos (by omega), if_pos (by omega), he', if_neg hh, e2]
      rcases ih (pre ++ [e]) (by rw [he]; simp) with ⟨j, hj, ev⟩ | ⟨ev, hn⟩
      · exact Or.inl ⟨j, hj, Ev.step hg ev⟩
      · refine Or.inr ⟨Ev.step hg ev, fun y hy => ?_⟩
        rcases List.mem_cons.1 hy with rfl | hy
        · exact hh
        · exact hn y hy
theorem raw_look {b : List Int} {keys : List ByteArray} {k : Int} {lv : List Int} (h : Ev (fun q => bsoncore_Document_LookupErr.f q b keys) (k, lv, none)) (hk0 : 1 ≤ k) (hk1 : k ≤ 255) (hl : lv.length ≤ 200000) : Ev (fun q => impl_RawLookup.f q b keys) (k, lv, 0) := by
  have hw : wrap64 k = k := w64 (by omega) (by omega)
  have hs : impl_some1.f k lv = some (k, lv) := by
    unfold impl_some1.f impl_own.f
    rw [if_pos (by simp only [List.length_nil]; omega)]
    show some (wrap64 k, lv) = _
    rw [hw]
  refine Ev.bind (a := (k, lv, none)) (Ev.bind h (Ev.congr (f := fun _ => some (k, lv, none)) (fun q => rfl) (Ev.now _))) ?_
  refine Ev.congr (fun q => ?_) (Ev.now _)
  show (impl_some1.f k lv).bind _ = _
  rw [hs]
  rfl
theorem same_ok (k : Int) (l : List Int) : spec_BindSame.f k l k l = some true := by
  unfold spec_BindSame.f
  rw [if_pos rfl, same_list]
section
variable (a : ByteArray) (bv bw : List Int) (v w : S26)
theorem in_whole (hp : spec_DocPlain.f (a.size + 1) a = some true) (hs : a.size ≤ 1000) (hbv : bv.length ≤ 90000) (hbw : bw.length ≤ 90000) (hw : Wr v.f7 bv) (hne : ∀ e, e ∈ v.f7 → ¬ e.f0.toList = a.toList) (more : List ByteArray) (res : Int × List Int × Option Int) (h : ∀ x : Int, 1 < x → Ev (fun q => bsoncore_Document_LookupErr.l0 q (a :: more) x (elemBytes a (docOf bw) 3 ++ [0])) res) : Ev (fun q => bsoncore_Document_LookupErr.f q (docOf (bv ++ elemBytes a (docOf bw) 3)) (a :: more)) res := by
  have hlen := docOf_length bw
  have hel := eb_length a (docOf bw) 3
  refine look_in _ (by rw [List.length_append]; omega) a more res ?_
  rw [List.append_assoc]
  have h1 := h (((elemBytes a (docOf bw) 3).length : Int) + 1) (by omega)
  have h2 := look_past hw a more (elemBytes a (docOf bw) 3 ++ [0]) (by rw [List.length_append]; simp only [List.length_cons, List.length_nil]; omega) res hne _ (by omega) (by omega) h1
  rw [show (((bv ++ elemBytes a (docOf bw) 3).length : Nat) : Int) + 1 = ((elemBytes a (docOf bw) 3).length : Int) + 1 + (bv.length : Int) by rw [List.length_append]; omega]
  exact h2
theorem in_own (hbw : bw.length ≤ 90000) (hw : Wr w.f7 bw) (nm : ByteArray) (h : ∃ e, e ∈ w.f7 ∧ e.f0.toList = nm.toList) : ∃ k lv, Ev (fun q => bsoncore_Document_LookupErr.f q (docOf bw) [nm]) (k, lv, none) ∧ 1 ≤ k ∧ k ≤ 255 ∧ lv.length ≤ 200000 := by
  obtain ⟨k, lv, ev, h1, h2, h3⟩ := look_some hw nm [0] (by simp only [List.length_cons, List.length_nil]; omega) h 1 (by omega) (by omega)
  refine ⟨k, lv, look_in bw (by omega) nm [] _ ?_, h1, h2, h3⟩
  rw [Int.add_comm]
  exact ev
end
theorem shape_doc (bw : List Int) : Shape 3 (docOf bw) := Shape.pd (Or.inl rfl) (bw.length + 5) (bw ++ [0]) rfl (by rw [List.length_append]; simp only [List.length_cons, List.length_nil])
theorem loop_ev (a : ByteArray) (bv bw : List Int) (v w : S26) (hp : spec_DocPlain.f (a.size + 1) a = some true) (hs : a.size ≤ 1000) (hbv : bv.length ≤ 90000) (hbw : bw.length ≤ 90000) (hv : Wr v.f7 bv) (hw : Wr w.f7 bw) (hwl : w.f7.length ≤ 1000) (hne : ∀ e, e ∈ v.f7 → ¬ e.f0.toList = a.toList) : ∀ (r pre : List S34), w.f7 = pre ++ r → Ev (fun k => laws_FnBindScope.l0 k a (docOf bw) (docOf (bv ++ elemBytes a (docOf bw) 3)) (pre.length : Int) w.f0 w.f1 w.f2 w.f3 w.f4 w.f5 w.f6 w.f7) true := by
  intro r
  induction r with
  | nil => intro pre he; exact Ev.step (fun k => by rw [laws_FnBindScope.l0, if_neg (by rw [he]; simp)]) (Ev.now _)
  | cons e r ih =>
    intro pre he
    have hlen : w.f7.length = pre.length + (r.length + 1) := by rw [he]; simp
    have he' : rd_T34 w.f7 (pre.length : Int) = e := by rw [he]; exact rd_at pre r e
    have e2 : wrap64 ((pre.length : Int) + 1) = (((pre ++ [e]).length : Nat) : Int) := by rw [w64 (by omega) (by omega)]; simp
    obtain ⟨k, lv, ev, h1, h2, h3⟩ := in_own bw w hbw hw e.f0 ⟨e, by rw [he]; simp, rfl⟩
    have evb := raw_look (in_whole a bv bw v hp hs hbv hbw hv hne [e.f0] _ (fun x hx => look_doc hp (by omega) (by omega) [0] (by simp) a e.f0 [] (shape_doc bw) rfl x hx k lv ev)) h1 h2 h3
    have evi := raw_look ev h1 h2 h3
    have ev2 := ih (pre ++ [e]) (by rw [he]; simp)
    generalize docOf (bv ++ elemBytes a (docOf bw) 3) = B at evb ev2 ⊢
    generalize docOf bw = I at evi ev2 ⊢
    refine Ev.step (f := fun q => (impl_RawLookup.f q B [a, e.f0]).bind fun bt699 => ((impl_RawLookup.f q I [e.f0]).bind fun bt709 => (if bt699.2.2 = 0 then (if bt709.2.2 = 0 then ((spec_BindSame.f bt699.1 bt699.2.1 bt709.1 bt709.2.1).bind fun t715 => (laws_FnBindScope.j4 q a I B (pre.length : Int) (!t715) w.f0 w.f1 w.f2 w.f3 w.f4 w.f5 w.f6 w.f7)) else (none)) else (none)))) (fun q => by rw [laws_FnBindScope.l0, if_pos (by omega), if_pos (by omega), he']) ?_
    refine Ev.bind evb (Ev.bind evi ?_)
    refine Ev.congr (f := fun q => laws_FnBindScope.j4 q a I B (pre.length : Int) false w.f0 w.f1 w.f2 w.f3 w.f4 w.f5 w.f6 w.f7) (fun q => ?_) ?_
    · show (if (0 : Int) = 0 then (if (0 : Int) = 0 then (spec_BindSame.f k lv k lv).bind _ else none) else none) = _
      rw [if_pos rfl, if_pos rfl, same_ok]
      rfl
    · exact Ev.step (fun q => by rw [laws_FnBindScope.j4, if_neg (by decide), e2]) ev2
theorem holds (v : S26) (hv : FitV v) (a : ByteArray) (ha : a.size ≤ M) (w : S26) (hw : FitV w) : ∃ k, laws_FnBindScope.f k v.f0 v.f1 v.f2 v.f3 v.f4 v.f5 v.f6 v.f7 a w.f0 w.f1 w.f2 w.f3 w.f4 w.f5 w.f6 w.f7 = some true := by
  apply Ev.rounds
  have ha' : a.size ≤ 140737488351232 := ha
  have out0 : Ev (fun k => laws_FnBindScope.j0 k a true v.f0 v.f1 v.f2 v.f3 v.f4 v.f5 v.f6 v.f7 w.f0 w.f1 w.f2 w.f3 w.f4 w.f5 w.f6 w.f7) true := Ev.step (fun k => by rw [laws_FnBindScope.j0, if_pos rfl]) (Ev.now _)
  have out1 : Ev (fun k => laws_FnBindScope.j1 k a true v.f0 v.f1 v.f2 v.f3 v.f4 v.f5 v.f6 v.f7 w.f0 w.f1 w.f2 w.f3 w.f4 w.f5 w.f6 w.f7) true := Ev.step (fun k => by rw [laws_FnBindScope.j1, if_pos rfl]) (Ev.now _)
  have fits : ∀ u : S26, ∃ z, laws_zzFits1.f u.f0 u.f1 u.f2 u.f3 u.f4 u.f5 u.f6 u.f7 = some z := fun u => by
    unfold laws_zzFits1.f
    (repeat' split) <;> exact ⟨_, rfl⟩
  obtain ⟨z, hz⟩ := fits v
  obtain ⟨y, hy⟩ := fits w
  cases z with
  | false => exact Ev.congr (fun k => by unfold laws_FnBindScope.f; rw [hz, Option.bind_some, if_neg (by decide)]) out0
  | true =>
  by_cases h1 : (a.size : Int) > 2147483647
  · exact Ev.congr (fun k => by unfold laws_FnBindScope.f; rw [hz, Option.bind_some, if_pos rfl, if_pos h1]) out0
  refine Ev.congr (f := fun k => laws_FnBindScope.j0 k a (!y) v.f0 v.f1 v.f2 v.f3 v.f4 v.f5 v.f6 v.f7 w.f0 w.f1 w.f2 w.f3 w.f4 w.f5 w.f6 w.f7) (fun k => by unfold laws_FnBindScope.f; rw [hz, Option.bind_some, if_pos rfl, if_neg h1, hy]; rfl) ?_
  cases y with
  | false => exact out0
  | true =>
  refine Ev.step (fun k => by rw [show (!true) = false from rfl, laws_FnBindScope.j0, if_neg (by decide)]) ?_
  rcases bdoc_ev v hv with ⟨D, hD⟩ | ⟨bv, hwv, hbv, hvl, hD⟩
  · exact Ev.bind hD (Ev.congr (fun k => by rw [if_neg (by simp)]) out1)
  refine Ev.bind hD ?_
  obtain ⟨p, hp⟩ := plain_some a ha
  have evp : Ev (fun k => spec_DocPlain.f k a) p := Ev.of (fun k => spec_DocPlain.mono _ _) hp
  refine Ev.congr (fun k => by rw [if_pos rfl]) (Ev.bind evp ?_)
  cases p with
  | false => exact Ev.congr (fun k => by rw [if_neg (by decide)]) out1
  | true =>
  by_cases h2 : (a.size : Int) > 1000
  · exact Ev.congr (fun k => by rw [if_pos rfl, if_pos h2]) out1
  refine Ev.congr (fun k => by rw [if_pos rfl, if_neg h2]) ?_
  rcases find_ev a v.f7 hvl v.f7 [] rfl with ⟨j, hj, evf⟩ | ⟨evf, hne⟩
  · exact Ev.bind (g := fun k => spec_DocFind.f k v.f7 a) evf (Ev.congr (fun k => by rw [if_pos hj]) out1)
  refine Ev.bind (g := fun k => spec_DocFind.f k v.f7 a) evf ?_
  refine Ev.congr (fun k => by rw [if_neg (by decide)]) ?_
  by_cases h3 : ¬ w.f0 = 3
  · exact Ev.congr (fun k => by rw [if_neg h3]) out1
  have h3 := Decidable.not_not.1 h3
  refine Ev.congr (fun k => by rw [if_pos h3]) ?_
  rcases bright_ev w hw with hf | ⟨n, b, hsz, hn, hb, hr, hf⟩
  · exact Ev.bind hf out1
  refine Ev.bind hf ?_
  obtain ⟨bw, hww, hbw, hwl⟩ := wr_in hsz hw hn hb hr h3
  have hM : w.f7.length ≤ M := by show _ ≤ 140737488351232; omega
  have hs : a.size ≤ 1000 := by omega
  have evI := wr_doc hww hM (by omega)
  have hlenI := docOf_length bw
  obtain ⟨e, he⟩ : ∃ e : S34, e = ⟨a, ⟨w.f0, w.f1, w.f2, w.f3, w.f4, w.f5, w.f6, w.f7⟩⟩ := ⟨_, rfl⟩
  have hwr : Wr (v.f7 ++ [e]) (bv ++ elemBytes a (docOf bw) 3) := by
    have h1 := Wr.cons e [] (docOf bw) [] (by rw [he]; exact hp) (by rw [he]; show a.size ≤ _; omega) (by rw [he]; show 1 ≤ w.f0; omega) (by rw [he]; show w.f0 ≤ 255; omega) (by rw [he]; exact dv_doc w.f0 h3 _ _ _ _ _ _ _ _ evI) (by rw [he]; show Shape w.f0 _; rw [h3]; exact shape_doc bw) Wr.nil
    rw [List.append_nil] at h1
    have h2 : elemBytes e.f0 (docOf bw) e.f1.f0 = elemBytes a (docOf bw) 3 := by rw [he]; show elemBytes a (docOf bw) w.f0 = _; rw [h3]
    rw [h2] at h1
    exact wr_append hwv h1
  have hel := eb_length a (docOf bw) 3
  have evB := wr_doc hwr (by show _ ≤ 140737488351232; rw [List.length_append]; simp only [List.length_cons, List.length_nil]; omega) (by rw [List.length_append]; omega)
  have evl := loop_ev a bv bw v w hp hs hbv hbw hwv hww hwl hne w.f7 [] rfl
  have ev1 := raw_look (k := 3) (lv := docOf bw) (in_whole a bv bw v hp hs hbv hbw hwv hne [] _ (fun x hx => look_hit hp (by omega) (shape_doc bw) (by omega) [0] (by simp) a rfl x hx)) (by decide) (by decide) (by omega)
  generalize docOf (bv ++ elemBytes a (docOf bw) 3) = B at evB evl ev1 ⊢
  generalize docOf bw = I at evI evl ev1 ⊢
  refine Ev.step (fun k => by rw [show (!true) = false from rfl, laws_FnBindScope.j1, if_neg (by decide)]) ?_
  refine Ev.bind evI ?_
  refine Ev.congr (f := fun k => (spec_DocBytes.f k (v.f7 ++ [e])).bind fun t682 => ((impl_RawLookup.f k t682 (([a] : List ByteArray))).bind fun bt688 => (if bt688.2.2 = 0 then ((spec_BindSame.f bt688.1 bt688.2.1 3 I).bind fun t694 => (laws_FnBindScope.j2 k a I t682 (!t694) w.f0 w.f1 w.f2 w.f3 w.f4 w.f5 w.f6 w.f7)) else (none)))) (fun k => ?_) ?_
  · rw [Option.bind_some, if_pos (by simp only [List.length_nil]; omega), Option.bind_some, Option.bind_some, if_pos (by simp only [List.length_append, List.length_cons, List.length_nil]; omega), List.nil_append, ← he]
  · refine Ev.bind evB (Ev.bind ev1 ?_)
    refine Ev.congr (f := fun k => laws_FnBindScope.j2 k a I B false w.f0 w.f1 w.f2 w.f3 w.f4 w.f5 w.f6 w.f7) (fun k => ?_) ?_
    · show (if (0 : Int) = 0 then (spec_BindSame.f 3 I 3 I).bind _ else none) = _
      rw [if_pos rfl, same_ok]
      rfl
    · exact Ev.step (fun k => by rw [laws_FnBindScope.j2, if_neg (by decide)]; rfl) evl

end Go.Proofs.YtlcgakpnpdkjjaaDoor.PBz.VT
