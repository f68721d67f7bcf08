/- A document told by its elements and by their names: the law FnBindRoads in plain words. Conditions: as each theorem states them. -/
import Derived.Test.YtlcgakpnpdkjjaaDoorProg
import Derived.Test.YtlcgakpnpdkjjaaDoorHW
import Derived.Below
import Derived.Deep.Draws
import Derived.OwnWalk
import Derived.Tactics
import Derived.WalkKit
import Derived.KernelRfl
import Derived.RowKit3
import Derived.Deep.LoopGhost
import Derived.Deep.QuietTactic
import Derived.BigQuiet
import Derived.WideLaws
import Derived.Deep.DeepCutAuto
import Derived.Deep.CutBlock
import Derived.Laws.Rows
import Derived.Outline
import Derived.StillTailTactics
import Derived.Deep.RegionHeld3
import Derived.Test.YtlcgakpnpdkjjaaDoorScr
import Derived.Test.YtlcgakpnpdkjjaaDoorPRdx14
namespace Go.Proofs.YtlcgakpnpdkjjaaDoor.PRd.VT
open Go.RowKit Go.Proofs.YtlcgakpnpdkjjaaDoorW.PrintWords Go.Proofs.YtlcgakpnpdkjjaaDoorW.PrintLast Go.Proofs.YtlcgakpnpdkjjaaDoorW.PrintMore
set_option linter.unusedVariables false
set_option linter.unusedSimpArgs false
/-- An element that stands ahead of more bytes is read. -/
theorem rd_name (a : ByteArray) (lv : List Int) (k : Int) (R : List Int) (j : Nat) (hj : j < a.size) : rd (elemBytes a lv k ++ R) ((j + 1 : Nat) : Int) = ((a.get! j).toNat : Int) := by
  have e : elemBytes a lv k ++ R = k :: (bytesOf a ++ (0 :: lv ++ R)) := by simp [elemBytes]
  have e3 := PL.bt_get a (j : Int) (by omega) (by omega)
  rw [Int.toNat_natCast] at e3
  rw [← e3, ← rd_bytesOf, e]
  unfold rd
  rw [Int.toNat_natCast, Int.toNat_natCast, List.getD_cons_succ, List.getD_eq_getElem?_getD, List.getD_eq_getElem?_getD, List.getElem?_append_left (by rw [bytesOf_length]; exact hj)]
theorem rd_zero (a : ByteArray) (lv : List Int) (k : Int) (R : List Int) : rd (elemBytes a lv k ++ R) ((a.size + 1 : Nat) : Int) = 0 := by
  have e : elemBytes a lv k ++ R = k :: (bytesOf a ++ (0 :: lv ++ R)) := by simp [elemBytes]
  rw [e]
  unfold rd
  rw [Int.toNat_natCast, List.getD_cons_succ, List.getD_eq_getElem?_getD, List.getElem?_append_right (by rw [bytesOf_length]; exact Nat.le_refl _), bytesOf_length, Nat.sub_self]
  rfl
theorem eb_rest2 (a : ByteArray) (lv : List Int) (k : Int) (R : List Int) : (elemBytes a lv k ++ R).drop (a.size + 2) = lv ++ R := by
  rw [List.drop_append_of_le_length (by rw [eb_length]; omega), eb_rest]
theorem read_end {a : ByteArray} {lv : List Int} {k : Int} (hp : spec_DocPlain.f (a.size + 1) a = some true) (hs : a.size ≤ 65536) (hsh : Shape k lv) (hl : lv.length ≤ 200000) (R : List Int) (hR : R.length ≤ 1000000) : Ev (fun q => bsoncore_ReadElement.l0 q (elemBytes a lv k ++ R) k ((a.size + 1 : Nat) : Int)) (elemBytes a lv k, R, true) := by
  have hlen := eb_length a lv k
  have hz := rd_zero a lv k R
  have hr := eb_rest2 a lv k R
  have hla : (elemBytes a lv k ++ R).length = a.size + lv.length + 2 + R.length := by rw [List.length_append, hlen]
  have ht : (elemBytes a lv k ++ R).take (elemBytes a lv k).length = elemBytes a lv k := List.take_left
  have hd : (elemBytes a lv k ++ R).drop (elemBytes a lv k).length = R := List.drop_left
  rw [hlen] at ht hd
  generalize elemBytes a lv k ++ R = L at *
  have e1 : wrap64 (((a.size + 1 : Nat) : Int) + 1) = ((a.size + 2 : Nat) : Int) := by rw [w64 (by omega) (by omega)]; omega
  have e2 : wrap64 (wrap64 (((a.size + 1 : Nat) : Int) + 1) + wrap64 (lv.length : Int)) = ((a.size + lv.length + 2 : Nat) : Int) := by rw [e1, w64 (x := (lv.length : Int)) (by omega) (by omega), w64 (by omega) (by omega)]; omega
  refine Ev.step (f := fun q => bsoncore_ReadElement.j1 q L k ((a.size + 1 : Nat) : Int) (rd L ((a.size + 1 : Nat) : Int) != 0)) (fun q => by rw [bsoncore_ReadElement.l0, if_pos (by omega), if_pos (by omega)]) ?_
  rw [hz]
  refine Ev.step (f := fun q => (bsoncore_valueLength.f q (L.drop (a.size + 2)) k).bind fun bt => (if bt.2 = true then (if (wrap64 ((wrap64 (((a.size + 1 : Nat) : Int) + 1)) + (wrap64 (bt.1)))) > (L.length : Int) then (some (([] : List Int), L, false)) else (if 0 ≤ (wrap64 ((wrap64 (((a.size + 1 : Nat) : Int) + 1)) + (wrap64 (bt.1)))) then (if (wrap64 ((wrap64 (((a.size + 1 : Nat) : Int) + 1)) + (wrap64 (bt.1)))) ≤ (L.length : Int) then (some ((L.take ((wrap64 ((wrap64 (((a.size + 1 : Nat) : Int) + 1)) + (wrap64 (bt.1)))) : Int).toNat), (L.drop ((wrap64 ((wrap64 (((a.size + 1 : Nat) : Int) + 1)) + (wrap64 (bt.1)))) : Int).toNat), true)) else (none)) else (none))) else (some (([] : List Int), L, false)))) (fun q => ?_) ?_
  · rw [bsoncore_ReadElement.j1, if_neg (by decide), if_neg (by omega), if_pos (by rw [e1]; omega), if_pos (by rw [e1, hla]; omega), show (wrap64 (((a.size + 1 : Nat) : Int) + 1)).toNat = a.size + 2 by rw [e1, Int.toNat_natCast]]
  · rw [hr]
    refine Ev.bind (shape_length hsh hl R) ?_
    refine Ev.congr (fun q => ?_) (Ev.now _)
    rw [if_pos rfl]
    simp only [e2]
    rw [if_neg (by omega), if_pos (by omega), if_pos (by omega), Int.toNat_natCast, ht, hd]
theorem read_elem {a : ByteArray} {lv : List Int} {k : Int} (hp : spec_DocPlain.f (a.size + 1) a = some true) (hs : a.size ≤ 65536) (hsh : Shape k lv) (hl : lv.length ≤ 200000) (R : List Int) (hR : R.length ≤ 1000000) : Ev (fun q => bsoncore_ReadElement.f q (elemBytes a lv k ++ R)) (elemBytes a lv k, R, true) := by
  have hlen : (elemBytes a lv k ++ R).length = a.size + lv.length + 2 + R.length := by rw [List.length_append, eb_length]
  have hpl := plain_nz a (by omega) hp
  have scan : ∀ j, j ≤ a.size → Ev (fun q => bsoncore_ReadElement.l0 q (elemBytes a lv k ++ R) k ((a.size - j + 1 : Nat) : Int)) (elemBytes a lv k, R, true) := by
    intro j
    induction j with
    | zero => intro _; exact read_end hp hs hsh hl R hR
    | succ j ih =>
      intro hj
      have h1 := ih (by omega)
      have hx := rd_name a lv k R (a.size - (j + 1)) (by omega)
      have hne := hpl (a.size - (j + 1)) (by omega)
      have hb : (rd (elemBytes a lv k ++ R) ((a.size - (j + 1) + 1 : Nat) : Int) != 0) = true := by
        rw [hx, bne_iff_ne]
        intro h0
        exact hne (UInt8.toNat_inj.1 (by show _ = 0; omega))
      refine Ev.step (f := fun q => bsoncore_ReadElement.j1 q (elemBytes a lv k ++ R) k ((a.size - (j + 1) + 1 : Nat) : Int) true) (fun q => by rw [bsoncore_ReadElement.l0, if_pos (by omega), if_pos (by omega), hb]) ?_
      refine Ev.step (f := fun q => bsoncore_ReadElement.l0 q (elemBytes a lv k ++ R) k ((a.size - j + 1 : Nat) : Int)) (fun q => ?_) h1
      rw [bsoncore_ReadElement.j1, if_pos rfl, show wrap64 (((a.size - (j + 1) + 1 : Nat) : Int) + 1) = ((a.size - j + 1 : Nat) : Int) by rw [w64 (by omega) (by omega)]; omega]
  have h0 := scan a.size (Nat.le_refl _)
  rw [Nat.sub_self] at h0
  refine Ev.congr (fun q => ?_) h0
  unfold bsoncore_ReadElement.f
  rw [if_neg (by omega), if_pos (by omega)]
  rfl
theorem key_elem {a : ByteArray} {lv : List Int} {k : Int} (hp : spec_DocPlain.f (a.size + 1) a = some true) (hs : a.size ≤ 65536) (hsh : Shape k lv) (hl : lv.length ≤ 200000) : bsoncore_Element_KeyBytes.f (elemBytes a lv k) = some (bytesOf a) := by
  have hlen := eb_length a lv k
  have hn := eb_name a lv k
  have hi : bytes_IndexByte.f ((elemBytes a lv k).drop 1) 0 = some (a.size : Int) := idx_plain a (by omega) hp lv
  unfold bsoncore_Element_KeyBytes.f bsoncore_Element_KeyBytesErr.f
  generalize elemBytes a lv k = L at *
  rw [if_neg (by omega), if_pos (by omega), hi, Option.bind_some, if_neg (by omega), w64 (by omega) (by omega), if_pos (by omega), if_pos (by omega), show ((a.size : Int) + 1).toNat = a.size + 1 by omega, hn]
  rfl
theorem value_elem {a : ByteArray} {lv : List Int} {k : Int} (hp : spec_DocPlain.f (a.size + 1) a = some true) (hs : a.size ≤ 65536) (hsh : Shape k lv) (hl : lv.length ≤ 200000) : Ev (fun q => bsoncore_Element_ValueErr.f q (elemBytes a lv k)) (k, lv, none) := by
  have hlen := eb_length a lv k
  have hi : bytes_IndexByte.f ((elemBytes a lv k).drop 1) 0 = some (a.size : Int) := idx_plain a (by omega) hp lv
  have hr := eb_rest a lv k
  have hrd : rd (elemBytes a lv k) 0 = k := rfl
  have evr : Ev (fun q => bsoncore_ReadValue.f q lv k) (k, lv, [], true) := by
    have e1 : Ev (fun q => bsoncore_readValue.f q lv k) (lv, [], true) := by
      have hs' := shape_length hsh hl []
      rw [List.append_nil] at hs'
      refine Ev.bind hs' ⟨1, fun q hq => ?_⟩
      obtain ⟨q, rfl⟩ : ∃ r, q = r + 1 := ⟨q - 1, by omega⟩
      show (if true = true then bsoncore_readValue.j0 (q + 1) lv (lv.length : Int) (decide (wrap64 (lv.length : Int) > (lv.length : Int))) else _) = _
      rw [if_pos rfl, w64 (by omega) (by omega), decide_eq_false (by omega), bsoncore_readValue.j0, if_neg (by decide), if_pos (by omega), if_pos (by omega), Int.toNat_natCast, List.take_length, List.drop_length]
    refine Ev.bind e1 ⟨0, fun q _ => ?_⟩
    rfl
  generalize elemBytes a lv k = L at *
  refine Ev.congr (f := fun q => (bsoncore_ReadValue.f q lv k).bind fun bt => (if bt.2.2.2 = true then (some (bt.1, bt.2.1, none)) else (none))) (fun q => ?_) (Ev.bind evr ?_)
  · unfold bsoncore_Element_ValueErr.f
    rw [if_neg (by omega), if_pos (by omega), hi, Option.bind_some, if_neg (by omega), w64 (by omega) (by omega), if_pos (by omega), if_pos (by omega), if_pos (by omega), show ((a.size : Int) + 2).toNat = a.size + 2 by omega, hr, hrd]
  · exact Ev.congr (fun q => by rw [if_pos rfl]) (Ev.now _)
/-- An element with another name is passed by. -/
theorem look_skip {a : ByteArray} {lv : List Int} {k : Int} (hp : spec_DocPlain.f (a.size + 1) a = some true) (hs : a.size ≤ 65536) (hsh : Shape k lv) (hl : lv.length ≤ 200000) (R : List Int) (hR : R.length ≤ 1000000) (nm : ByteArray) (more : List ByteArray) (hne : ¬ a.toList = nm.toList) (x : Int) (h6 : 1 < x) (h6' : x ≤ 2000000) (res : Int × List Int × Option Int) (h : Ev (fun q => bsoncore_Document_LookupErr.l0 q (nm :: more) (x - (elemBytes a lv k).length) R) res) : Ev (fun q => bsoncore_Document_LookupErr.l0 q (nm :: more) x (elemBytes a lv k ++ R)) res := by
  have hlen := eb_length a lv k
  have hrd : rdOf ByteArray.empty (nm :: more) 0 = nm := rfl
  have hk : 0 < ((nm :: more).length : Int) := by simp only [List.length_cons]; omega
  have e1 : wrap32 (x - wrap32 ((elemBytes a lv k).length : Int)) = x - ((elemBytes a lv k).length : Int) := by rw [w32 (x := ((elemBytes a lv k).length : Int)) (by omega) (by omega), w32 (by omega) (by omega)]
  refine Ev.step (fun q => by rw [bsoncore_Document_LookupErr.l0, if_pos (by omega)]) ?_
  refine Ev.bind (read_elem hp hs hsh hl R hR) ?_
  refine Ev.congr (fun q => ?_) h
  rw [if_pos rfl, key_elem hp hs hsh hl, Option.bind_some, if_pos hk, PL.strOfNums_bytesOf, hrd, if_neg hne]
  show bsoncore_Document_LookupErr.l0 q (nm :: more) (wrap32 (x - wrap32 ((elemBytes a lv k).length : Int))) R = _
  rw [e1]
/-- An element with the name, the last one of the path. -/
theorem look_hit {a : ByteArray} {lv : List Int} {k : Int} (hp : spec_DocPlain.f (a.size + 1) a = some true) (hs : a.size ≤ 65536) (hsh : Shape k lv) (hl : lv.length ≤ 200000) (R : List Int) (hR : R.length ≤ 1000000) (nm : ByteArray) (he : a.toList = nm.toList) (x : Int) (h6 : 1 < x) : Ev (fun q => bsoncore_Document_LookupErr.l0 q [nm] x (elemBytes a lv k ++ R)) (k, lv, none) := by
  have hrd : rdOf ByteArray.empty [nm] 0 = nm := rfl
  refine Ev.step (fun q => by rw [bsoncore_Document_LookupErr.l0, if_pos h6]) ?_
  refine Ev.bind (read_elem hp hs hsh hl R hR) ?_
  refine Ev.congr (f := fun q => (bsoncore_Element_ValueErr.f q (elemBytes a lv k)).bind fun bt => (some (bt.1, bt.2.1, bt.2.2))) (fun q => ?_) (Ev.bind (value_elem hp hs hsh hl) (Ev.now _))
  rw [if_pos rfl, key_elem hp hs hsh hl, Option.bind_some, if_pos (by simp), PL.strOfNums_bytesOf, hrd, if_pos he, if_neg (by simp)]
/-- What stands ahead, under other names, is passed by. -/
theorem look_past {r : List S34} {bp : List Int} (h : Wr r bp) (nm : ByteArray) (more : List ByteArray) (R : List Int) (hR : bp.length + R.length ≤ 200000) (res : Int × List Int × Option Int) : (∀ e, e ∈ r → ¬ e.f0.toList = nm.toList) → ∀ x : Int, 1 ≤ x → x + bp.length ≤ 1000000 → Ev (fun q => bsoncore_Document_LookupErr.l0 q (nm :: more) x R) res → Ev (fun q => bsoncore_Document_LookupErr.l0 q (nm :: more) (x + bp.length) (bp ++ R)) res := by
  induction h with
  | nil => intro _ x h1 h2 hx; simpa using hx
  | cons e r lv body hp hs hk0 hk1 ev hsh hr ih =>
    intro hn x h1 h2 hx
    have hel := eb_length e.f0 lv e.f1.f0
    rw [List.length_append] at hR h2
    have h3 := ih (by omega) (fun y hy => hn y (by simp [hy])) x h1 (by omega) hx
    rw [List.append_assoc]
    refine look_skip hp hs hsh (by omega) (body ++ R) (by rw [List.length_append]; omega) nm more (hn e (by simp)) _ (by rw [List.length_append]; omega) (by rw [List.length_append]; omega) res ?_
    rw [show x + (((elemBytes e.f0 lv e.f1.f0 ++ body).length : Nat) : Int) - ((elemBytes e.f0 lv e.f1.f0).length : Int) = x + (body.length : Int) by rw [List.length_append]; omega]
    exact h3
theorem look_in (body : List Int) (hb : body.length ≤ 200000) (nm : ByteArray) (more : List ByteArray) (res : Int × List Int × Option Int) (h : Ev (fun q => bsoncore_Document_LookupErr.l0 q (nm :: more) ((body.length : Int) + 1) (body ++ [0])) res) : Ev (fun q => bsoncore_Document_LookupErr.f q (docOf body) (nm :: more)) res := by
  have hr : bsoncore_ReadLength.f (docOf body) = some (((body.length + 5 : Nat) : Int), body ++ [0], true) := readlen _ _ (by omega)
  refine Ev.step (fun q => ?_) h
  rw [bsoncore_Document_LookupErr.f, if_neg (by simp only [List.length_cons]; omega), hr, Option.bind_some, if_pos rfl]
  dsimp only
  rw [w32 (by omega) (by omega), show ((body.length + 5 : Nat) : Int) - 4 = (body.length : Int) + 1 by omega]
/-- By the name of one of its elements something is found in a document. -/
theorem look_some {r : List S34} {bp : List Int} (h : Wr r bp) (nm : ByteArray) (R : List Int) (hR : bp.length + R.length ≤ 200000) : (∃ e, e ∈ r ∧ e.f0.toList = nm.toList) → ∀ x : Int, 1 ≤ x → x + bp.length ≤ 1000000 → ∃ k lv, Ev (fun q => bsoncore_Document_LookupErr.l0 q [nm] (x + bp.length) (bp ++ R)) (k, lv, none) ∧ 1 ≤ k ∧ k ≤ 255 ∧ lv.length ≤ 200000 := by
  induction h with
  | nil => rintro ⟨e, he, _⟩; simp at he
  | cons e r lv body hp hs hk0 hk1 ev hsh hr ih =>
    intro hn x h1 h2
    have hel := eb_length e.f0 lv e.f1.f0
    rw [List.length_append] at hR h2
    by_cases hh : e.f0.toList = nm.toList
    · rw [List.append_assoc]
      exact ⟨e.f1.f0, lv, look_hit hp hs hsh (by omega) (body ++ R) (by rw [List.length_append]; omega) nm hh _ (by rw [List.length_append]; omega), hk0, hk1, by omega⟩
    · obtain ⟨k, l, h3, a1, a2, a3⟩ := ih (by omega) (by
        obtain ⟨y, hy, hyn⟩ := hn
        rcases List.mem_cons.1 hy with rfl | hy
        · exact absurd hyn hh
        · exact ⟨y, hy, hyn⟩) x h1 (by omega)
      refine ⟨k, l, ?_, a1, a2, a3⟩
      rw [List.append_assoc]
      refine look_skip hp hs hsh (by omega) (body ++ R) (by rw [List.length_append]; omega) nm [] hh _ (by rw [List.length_append]; omega) (by rw [List.length_append]; omega) _ ?_
      rw [show x + (((elemBytes e.f0 lv e.f1.f0 ++ body).length : Nat) : Int) - ((elemBytes e.f0 lv e.f1.f0).length : Int) = x + (body.length : Int) by rw [List.length_append]; omega]
      exact h3

/-- A document's elements as bytes, one by one. -/
inductive WrL : List S34 → List (List Int) → Prop
  | nil : WrL [] []
  | cons (e : S34) (r : List S34) (lv : List Int) (L : List (List Int)) (hp : spec_DocPlain.f (e.f0.size + 1) e.f0 = some true) (hs : e.f0.size ≤ 65536) (hk0 : 1 ≤ e.f1.f0) (hk1 : e.f1.f0 ≤ 255) (ev : Ev (fun k => spec_DocValue.f k e.f1.f0 e.f1.f1 e.f1.f2 e.f1.f3 e.f1.f4 e.f1.f5 e.f1.f6 e.f1.f7) lv) (hsh : Shape e.f1.f0 lv) (hr : WrL r L) : WrL (e :: r) (elemBytes e.f0 lv e.f1.f0 :: L)
theorem wrl_of {r : List S34} {body : List Int} (h : Wr r body) : ∃ L, WrL r L ∧ body = L.flatten := by
  induction h with
  | nil => exact ⟨[], .nil, rfl⟩
  | cons e r lv body hp hs hk0 hk1 ev hsh hr ih =>
    obtain ⟨L, h1, h2⟩ := ih
    exact ⟨_, .cons e r lv L hp hs hk0 hk1 ev hsh h1, by rw [h2]; rfl⟩
theorem wrl_length {r : List S34} {L : List (List Int)} (h : WrL r L) : L.length = r.length := by
  induction h with
  | nil => rfl
  | cons e r lv L hp hs hk0 hk1 ev hsh hr ih => rw [List.length_cons, List.length_cons, ih]
theorem rdl_at (pre r : List (List Int)) (e : List Int) : rd_L4 (pre ++ e :: r) (pre.length : Int) = e := by
  unfold rd_L4
  rw [Int.toNat_natCast]
  simp
theorem valid_elem {a : ByteArray} {lv : List Int} {k : Int} (hp : spec_DocPlain.f (a.size + 1) a = some true) (hs : a.size ≤ 65536) (hsh : Shape k lv) (hl : lv.length ≤ 200000) : Ev (fun q => bsoncore_Element_Validate.f q (elemBytes a lv k)) none := by
  have hlen := eb_length a lv k
  have hi : bytes_IndexByte.f ((elemBytes a lv k).drop 1) 0 = some (a.size : Int) := idx_plain a (by omega) hp lv
  have hr := eb_rest a lv k
  have hrd : rd (elemBytes a lv k) 0 = k := rfl
  have evr : Ev (fun q => bsoncore_Value_Validate.f q k lv) none := by
    have e1 : Ev (fun q => bsoncore_readValue.f q lv k) (lv, [], true) := by
      have hs' := shape_length hsh hl []
      rw [List.append_nil] at hs'
      refine Ev.bind hs' ⟨1, fun q hq => ?_⟩
      obtain ⟨q, rfl⟩ : ∃ r, q = r + 1 := ⟨q - 1, by omega⟩
      show (if true = true then bsoncore_readValue.j0 (q + 1) lv (lv.length : Int) (decide (wrap64 (lv.length : Int) > (lv.length : Int))) else _) = _
      rw [if_pos rfl, w64 (by omega) (by omega), decide_eq_false (by omega), bsoncore_readValue.j0, if_neg (by decide), if_pos (by omega), if_pos (by omega), Int.toNat_natCast, List.take_length, List.drop_length]
    exact Ev.bind e1 (Ev.congr (f := fun _ => some none) (fun q => rfl) (Ev.now _))
  generalize elemBytes a lv k = L at *
  refine Ev.congr (f := fun q => (bsoncore_Value_Validate.f q k lv).bind fun t => some t) (fun q => ?_) (Ev.bind evr (Ev.now _))
  unfold bsoncore_Element_Validate.f
  rw [if_neg (by omega), if_pos (by omega), hi, Option.bind_some, if_neg (by omega), if_pos (by omega), w64 (by omega) (by omega), if_pos (by omega), if_pos (by omega), show ((a.size : Int) + 2).toNat = a.size + 2 by omega, hr, hrd]
theorem elems_l0 {r : List S34} {L : List (List Int)} (h : WrL r L) : ∀ (acc : List (List Int)), L.flatten.length ≤ 200000 → acc.length + L.length ≤ 1000000 → Ev (fun q => bsoncore_Document_Elements.l0 q ((L.flatten.length : Int) + 1) (L.flatten ++ [0]) acc) (acc ++ L, none) := by
  induction h with
  | nil => intro acc _ _; exact Ev.step (fun q => by rw [bsoncore_Document_Elements.l0, if_neg (by simp)]) (by rw [List.append_nil]; exact Ev.now _)
  | cons e r lv L hp hs hk0 hk1 ev hsh hr ih =>
    intro acc hl ha
    have hel := eb_length e.f0 lv e.f1.f0
    rw [List.flatten_cons, List.length_append] at hl
    rw [List.length_cons] at ha
    have h2 := ih (acc ++ [elemBytes e.f0 lv e.f1.f0]) (by omega) (by rw [List.length_append]; simp only [List.length_cons, List.length_nil]; omega)
    rw [List.append_assoc] at h2
    have hre := read_elem hp hs hsh (by omega) (L.flatten ++ [0]) (by rw [List.length_append]; simp only [List.length_cons, List.length_nil]; omega)
    have hva := valid_elem hp hs hsh (by omega)
    rw [List.flatten_cons, List.append_assoc, List.length_append]
    generalize elemBytes e.f0 lv e.f1.f0 = E at *
    refine Ev.step (fun q => by rw [bsoncore_Document_Elements.l0, if_pos (by omega)]) ?_
    refine Ev.bind hre ?_
    refine Ev.congr (f := fun q => (bsoncore_Element_Validate.f q E).bind fun t660 => (if t660.isNone = true then (if acc.length < 5864062014805 then (bsoncore_Document_Elements.l0 q (wrap32 (((E.length + L.flatten.length : Nat) : Int) + 1 - wrap32 (E.length : Int))) (L.flatten ++ [0]) (acc ++ [E])) else (none)) else (none))) (fun q => rfl) ?_
    refine Ev.bind hva ?_
    refine Ev.congr (fun q => ?_) h2
    rw [if_pos (by rfl), if_pos (by omega), w32 (x := (E.length : Int)) (by omega) (by omega), w32 (by omega) (by omega), show ((E.length + L.flatten.length : Nat) : Int) + 1 - (E.length : Int) = (L.flatten.length : Int) + 1 by omega]
theorem raw_copy (L : List (List Int)) (hL : L.length ≤ 1000) : ∀ (r pre : List (List Int)), L = pre ++ r → Ev (fun q => bson_Raw_Elements.l0 q pre L (L.length : Int) (pre.length : Int)) (L, none) := by
  intro r
  induction r with
  | nil => intro pre he; rw [List.append_nil] at he; subst he; exact Ev.step (fun q => by rw [bson_Raw_Elements.l0, if_neg (by omega)]) (Ev.now _)
  | cons e r ih =>
    intro pre he
    have hlen : L.length = pre.length + (r.length + 1) := by rw [he]; simp
    have he' : rd_L4 L (pre.length : Int) = e := by rw [he]; exact rdl_at pre r e
    have e2 : wrap64 ((pre.length : Int) + 1) = (((pre ++ [e]).length : Nat) : Int) := by rw [w64 (by omega) (by omega)]; simp
    exact Ev.step (fun q => by rw [bson_Raw_Elements.l0, if_pos (by omega), if_pos (by omega), if_pos (by omega), if_pos (by omega), he', e2]) (ih (pre ++ [e]) (by rw [he]; simp))
theorem own_copy (L : List (List Int)) (hL : L.length ≤ 1000) (hb : ∀ E, E ∈ L → E.length ≤ 1000000) : ∀ (r pre : List (List Int)), L = pre ++ r → Ev (fun q => impl_RawElements.l0 q none pre L (L.length : Int) (pre.length : Int)) (L, true) := by
  intro r
  induction r with
  | nil => intro pre he; rw [List.append_nil] at he; subst he; exact Ev.step (fun q => by rw [impl_RawElements.l0, if_neg (by omega), if_pos (by rfl)]) (Ev.now _)
  | cons e r ih =>
    intro pre he
    have hlen : L.length = pre.length + (r.length + 1) := by rw [he]; simp
    have he' : rd_L4 L (pre.length : Int) = e := by rw [he]; exact rdl_at pre r e
    have e2 : wrap64 ((pre.length : Int) + 1) = (((pre ++ [e]).length : Nat) : Int) := by rw [w64 (by omega) (by omega)]; simp
    have hel := hb e (by rw [he]; simp)
    have ho : impl_own.f e = some e := by
      unfold impl_own.f
      rw [if_pos (by simp only [List.length_nil]; omega), List.nil_append]
    exact Ev.step (fun q => by rw [impl_RawElements.l0, if_pos (by omega), if_pos (by omega), if_pos (by omega), he', ho, Option.bind_some, if_pos (by omega), e2]) (ih (pre ++ [e]) (by rw [he]; simp))
theorem part_len (L : List (List Int)) : ∀ E, E ∈ L → E.length ≤ L.flatten.length := by
  induction L with
  | nil => intro E h; simp at h
  | cons x L ih =>
    intro E h
    rw [List.flatten_cons, List.length_append]
    rcases List.mem_cons.1 h with rfl | h
    · omega
    · have := ih E h; omega
/-- A document's elements are told. -/
theorem elements {r : List S34} {L : List (List Int)} (h : WrL r L) (hl : L.flatten.length ≤ 90000) (hL : r.length ≤ 1000) : Ev (fun q => impl_RawElements.f q (docOf L.flatten)) (L, true) := by
  have hlen := docOf_length L.flatten
  have hLL := wrl_length h
  have hr : bsoncore_ReadLength.f (docOf L.flatten) = some (((L.flatten.length + 5 : Nat) : Int), L.flatten ++ [0], true) := readlen _ _ (by omega)
  have e1 : Ev (fun q => bsoncore_Document_Elements.f q (docOf L.flatten)) (L, none) := by
    refine Ev.congr (fun q => ?_) (elems_l0 h [] (by omega) (by simp only [List.length_nil]; omega))
    unfold bsoncore_Document_Elements.f
    rw [hr, Option.bind_some, if_pos rfl]
    dsimp only
    rw [w32 (by omega) (by omega), show ((L.flatten.length + 5 : Nat) : Int) - 4 = (L.flatten.length : Int) + 1 by omega]
  have e2 : Ev (fun q => bson_Raw_Elements.f q (docOf L.flatten)) (L, none) := by
    refine Ev.congr (f := fun q => (bsoncore_Document_Elements.f q (docOf L.flatten)).bind fun bt665 => (if bt665.2.isNone = true then (if 0 ≤ (bt665.1.length : Int) then (if ((bt665.1.length : Int) : Int).toNat ≤ 11728124029610 then (bson_Raw_Elements.l0 q (([] : List (List Int))) bt665.1 (bt665.1.length : Int) 0) else (none)) else (none)) else (none))) (fun q => by unfold bson_Raw_Elements.f; rw [if_neg (by omega)]) ?_
    refine Ev.bind e1 (Ev.congr (fun q => ?_) (raw_copy L (by omega) L [] rfl))
    rw [if_pos (by rfl)]
    dsimp only
    rw [if_pos (by omega), if_pos (by omega)]
    rfl
  exact Ev.bind e2 (own_copy L (by omega) (fun E hE => by have := part_len L E hE; omega) L [] rfl)
theorem raw_key {a : ByteArray} {lv : List Int} {k : Int} (hp : spec_DocPlain.f (a.size + 1) a = some true) (hs : a.size ≤ 65536) (hl : lv.length ≤ 200000) : impl_RawKey.f (elemBytes a lv k) = some (a, 0) := by
  have hlen := eb_length a lv k
  have hn := eb_name a lv k
  have hi : bytes_IndexByte.f ((elemBytes a lv k).drop 1) 0 = some (a.size : Int) := idx_plain a (by omega) hp lv
  unfold impl_RawKey.f bson_RawElement_KeyErr.f bsoncore_Element_KeyErr.f bsoncore_Element_KeyBytesErr.f
  generalize elemBytes a lv k = L at *
  rw [if_neg (by omega), if_pos (by omega), hi, Option.bind_some, if_neg (by omega), w64 (by omega) (by omega), if_pos (by omega), if_pos (by omega), show ((a.size : Int) + 1).toNat = a.size + 1 by omega, hn]
  simp only [Option.bind_some, PL.strOfNums_bytesOf]
  rfl
theorem raw_value {a : ByteArray} {lv : List Int} {k : Int} (hp : spec_DocPlain.f (a.size + 1) a = some true) (hs : a.size ≤ 65536) (hk0 : 1 ≤ k) (hk1 : k ≤ 255) (hsh : Shape k lv) (hl : lv.length ≤ 200000) : Ev (fun q => impl_RawElementValue.f q (elemBytes a lv k)) (k, lv, 0) := by
  have hw : wrap64 k = k := w64 (by omega) (by omega)
  have hs' : impl_some1.f k lv = some (k, lv) := by
    unfold impl_some1.f impl_own.f
    rw [if_pos (by simp only [List.length_nil]; omega)]
    show some (wrap64 k, lv) = _
    rw [hw]
  refine Ev.bind (a := (k, lv, none)) (Ev.bind (value_elem hp hs hsh hl) (Ev.congr (f := fun _ => some (k, lv, none)) (fun q => rfl) (Ev.now _))) ?_
  refine Ev.congr (fun q => ?_) (Ev.now _)
  show (impl_some1.f k lv).bind _ = _
  rw [hs']
  rfl
/-- Which element with a name is the first one. -/
theorem first_ev (nm : ByteArray) (K : List S34) (hM : K.length ≤ 1000) : ∀ (r pre : List S34), K = pre ++ r → ∃ j : Int, Ev (fun k => spec_DocFind.l0 k K nm (pre.length : Int)) j ∧ (j = -1 ∨ ∃ r1 e r2, r = r1 ++ e :: r2 ∧ j = ((pre.length + r1.length : Nat) : Int) ∧ ∀ y, y ∈ r1 → ¬ y.f0.toList = nm.toList) := by
  intro r
  induction r with
  | nil => intro pre he; exact ⟨-1, Ev.step (fun k => by rw [spec_DocFind.l0, if_neg (by rw [he]; simp)]) (Ev.now _), Or.inl rfl⟩
  | cons e r ih =>
    intro pre he
    have hlen : K.length = pre.length + (r.length + 1) := by rw [he]; simp
    have he' : rd_T34 K (pre.length : Int) = e := by rw [he]; exact rd_at pre r e
    by_cases hh : e.f0.toList = nm.toList
    · exact ⟨(pre.length : Int), Ev.step (fun k => by rw [spec_DocFind.l0, if_pos (by omega), if_pos (by omega), he', if_pos hh]) (Ev.now _), Or.inr ⟨[], e, r, rfl, by simp, fun y hy => by simp at hy⟩⟩
    · have e2 : wrap64 ((pre.length : Int) + 1) = (((pre ++ [e]).length : Nat) : Int) := by rw [w64 (by omega) (by omega)]; simp
      have hg : ∀ k, spec_DocFind.l0 (k + 1) K nm (pre.length : Int) = spec_DocFind.l0 k K nm (((pre ++ [e]).length : Nat) : Int) := fun k => by rw [spec_DocFind.l0, if_pos (by omega), if_pos (by omega), he', if_neg hh, e2]
      obtain ⟨j, ev, hj⟩ := ih (pre ++ [e]) (by rw [he]; simp)
      refine ⟨j, Ev.step hg ev, ?_⟩
      rcases hj with hj | ⟨r1, x, r2, h1, h2, h3⟩
      · exact Or.inl hj
      · refine Or.inr ⟨e :: r1, x, r2, by rw [h1]; rfl, by rw [h2]; simp only [List.length_append, List.length_cons, List.length_nil]; omega, fun y hy => ?_⟩
        rcases List.mem_cons.1 hy with rfl | hy
        · exact hh
        · exact h3 y hy
/-- An element in the midst. -/
theorem wr_split {pre : List S34} : ∀ {r : List S34} {body : List Int}, Wr (pre ++ r) body → ∃ bp br, Wr pre bp ∧ Wr r br ∧ body = bp ++ br := by
  induction pre with
  | nil => intro r body h; exact ⟨[], body, .nil, h, rfl⟩
  | cons e pre ih =>
    intro r body h
    cases h with
    | cons _ _ lv b hp hs hk0 hk1 ev hsh hr =>
    obtain ⟨bp, br, h1, h2, h3⟩ := ih hr
    exact ⟨_, br, .cons e pre lv bp hp hs hk0 hk1 ev hsh h1, h2, by rw [h3, List.append_assoc]⟩
theorem raw_look {b : List Int} {keys : List ByteArray} {k : Int} {lv : List Int} (h : Ev (fun q => bsoncore_Document_LookupErr.f q b keys) (k, lv, none)) (hk0 : 1 ≤ k) (hk1 : k ≤ 255) (hl : lv.length ≤ 200000) : Ev (fun q => impl_RawLookup.f q b keys) (k, lv, 0) := by
  have hw : wrap64 k = k := w64 (by omega) (by omega)
  have hs : impl_some1.f k lv = some (k, lv) := by
    unfold impl_some1.f impl_own.f
    rw [if_pos (by simp only [List.length_nil]; omega)]
    show some (wrap64 k, lv) = _
    rw [hw]
  refine Ev.bind (a := (k, lv, none)) (Ev.bind h (Ev.congr (f := fun _ => some (k, lv, none)) (fun q => rfl) (Ev.now _))) ?_
  refine Ev.congr (fun q => ?_) (Ev.now _)
  show (impl_some1.f k lv).bind _ = _
  rw [hs]
  rfl
theorem same_ok (k : Int) (l : List Int) : spec_BindSame.f k l k l = some true := by
  unfold spec_BindSame.f
  rw [if_pos rfl, same_list]
theorem loop_ev (v : S26) (L : List (List Int)) (body : List Int) (hw : Wr v.f7 body) (hb : body.length ≤ 90000) (hvl : v.f7.length ≤ 1000) (hLb : ∀ E, E ∈ L → E.length ≤ 90000) : ∀ (r : List S34) (L' : List (List Int)), WrL r L' → ∀ (pre : List S34) (Lp : List (List Int)), v.f7 = pre ++ r → L = Lp ++ L' → Lp.length = pre.length → L.length = v.f7.length → Ev (fun k => laws_FnBindRoads.l0 k (docOf body) L (pre.length : Int) v.f0 v.f1 v.f2 v.f3 v.f4 v.f5 v.f6 v.f7) true := by
  intro r L' h
  induction h with
  | nil => intro pre Lp he hL hp hLL; exact Ev.step (fun k => by rw [laws_FnBindRoads.l0, if_neg (by rw [hLL, he]; simp)]) (Ev.now _)
  | cons e r lv L' hp hs hk0 hk1 ev hsh hr ih =>
    intro pre Lp he hL hpl hLL
    have hlen : v.f7.length = pre.length + (r.length + 1) := by rw [he]; simp
    have he' : rd_T34 v.f7 (pre.length : Int) = e := by rw [he]; exact rd_at pre r e
    have hE : rd_L4 L (pre.length : Int) = elemBytes e.f0 lv e.f1.f0 := by rw [hL, ← hpl]; exact rdl_at Lp L' _
    have e2 : wrap64 ((pre.length : Int) + 1) = (((pre ++ [e]).length : Nat) : Int) := by rw [w64 (by omega) (by omega)]; simp
    have hEl := hLb (elemBytes e.f0 lv e.f1.f0) (by rw [hL]; simp)
    rw [eb_length] at hEl
    have ev2 := ih (pre ++ [e]) (Lp ++ [elemBytes e.f0 lv e.f1.f0]) (by rw [he]; simp) (by rw [hL]; simp) (by simp only [List.length_append, List.length_cons, List.length_nil]; omega) hLL
    have hkey := raw_key (k := e.f1.f0) hp hs (lv := lv) (by omega)
    have hval := raw_value hp hs hk0 hk1 hsh (by omega)
    obtain ⟨j, evf, hj⟩ := first_ev e.f0 v.f7 hvl v.f7 [] rfl
    have evf' : Ev (fun k => spec_DocFind.f k v.f7 e.f0) j := evf
    have again : Ev (fun q => laws_FnBindRoads.j3 q (docOf body) L (pre.length : Int) false v.f0 v.f1 v.f2 v.f3 v.f4 v.f5 v.f6 v.f7) true := Ev.step (fun q => by rw [laws_FnBindRoads.j3, if_neg (by decide), e2]) ev2
    refine Ev.step (f := fun q => (impl_RawElementValue.f q (elemBytes e.f0 lv e.f1.f0)).bind fun bt753 => (if bt753.2.2 = 0 then laws_FnBindRoads.j2 q (docOf body) L (pre.length : Int) e.f0 false v.f0 v.f1 v.f2 v.f3 v.f4 v.f5 v.f6 v.f7 bt753.1 bt753.2.1 else none)) (fun q => ?_) ?_
    · rw [laws_FnBindRoads.l0, if_pos (by omega), if_pos (by omega), hE, hkey, Option.bind_some, he', bne_self_eq_false]
      simp only [if_true]
      congr 1
      funext bt
      rw [if_pos (show (pre.length : Int) < (v.f7.length : Int) by omega)]
    refine Ev.bind hval ?_
    refine Ev.congr (f := fun q => laws_FnBindRoads.j2 q (docOf body) L (pre.length : Int) e.f0 false v.f0 v.f1 v.f2 v.f3 v.f4 v.f5 v.f6 v.f7 e.f1.f0 lv) (fun q => by rw [if_pos rfl]) ?_
    refine Ev.step (fun q => by rw [laws_FnBindRoads.j2, if_neg (by decide)]) ?_
    by_cases hjp : j = (pre.length : Int)
    · have hfst : ∀ y, y ∈ pre → ¬ y.f0.toList = e.f0.toList := by
        rcases hj with hj | ⟨r1, x, r2, h1, h2, h3⟩
        · omega
        · rw [he] at h1
          have hr1 : pre = r1 := (List.append_inj h1 (by simp only [List.length_nil] at h2; omega)).1
          rw [hr1]
          exact h3
      obtain ⟨bp, br, w1, w2, w3⟩ := wr_split (by rw [← he]; exact hw)
      have hlook : Ev (fun q => bsoncore_Document_LookupErr.f q (docOf body) [e.f0]) (e.f1.f0, lv, none) := by
        cases w2 with
        | cons _ _ lv2 b2 hp' hs' hk0' hk1' ev' hsh' hr' =>
        have hlv := Ev.uniq_ ev ev'
        subst hlv
        rw [w3] at hb ⊢
        rw [List.length_append, List.length_append, eb_length] at hb
        refine look_in _ (by rw [List.length_append, List.length_append, eb_length]; omega) e.f0 [] _ ?_
        have h1 := look_hit hp hs hsh (by omega) (b2 ++ [0]) (by rw [List.length_append]; simp only [List.length_cons, List.length_nil]; omega) e.f0 rfl (((elemBytes e.f0 lv e.f1.f0 ++ b2).length : Int) + 1) (by rw [List.length_append, eb_length]; omega)
        have h2 := look_past w1 e.f0 [] _ (by rw [List.length_append, eb_length, List.length_append]; simp only [List.length_cons, List.length_nil]; omega) _ hfst (((elemBytes e.f0 lv e.f1.f0 ++ b2).length : Int) + 1) (by omega) (by rw [List.length_append, eb_length]; omega) h1
        rw [show (((bp ++ (elemBytes e.f0 lv e.f1.f0 ++ b2)).length : Nat) : Int) + 1 = ((elemBytes e.f0 lv e.f1.f0 ++ b2).length : Int) + 1 + (bp.length : Int) by simp only [List.length_append]; omega, List.append_assoc, List.append_assoc]
        exact h2
      refine Ev.bind (raw_look hlook hk0 hk1 (by omega)) (Ev.bind evf' ?_)
      refine Ev.congr (f := fun q => laws_FnBindRoads.j3 q (docOf body) L (pre.length : Int) false v.f0 v.f1 v.f2 v.f3 v.f4 v.f5 v.f6 v.f7) (fun q => ?_) again
      rw [if_pos rfl, if_pos hjp]
      show (spec_BindSame.f e.f1.f0 lv e.f1.f0 lv).bind _ = _
      rw [same_ok]
      rfl
    · obtain ⟨k', lv', ev', h1, h2, h3⟩ := look_some hw e.f0 [0] (by simp only [List.length_cons, List.length_nil]; omega) ⟨e, by rw [he]; simp, rfl⟩ 1 (by omega) (by omega)
      rw [Int.add_comm] at ev'
      refine Ev.bind (raw_look (look_in body (by omega) e.f0 [] _ ev') h1 h2 h3) (Ev.bind evf' ?_)
      exact Ev.congr (fun q => by rw [if_pos rfl, if_neg hjp]) again
theorem holds (v : S26) (hv : FitV v) : ∃ k, laws_FnBindRoads.f k v.f0 v.f1 v.f2 v.f3 v.f4 v.f5 v.f6 v.f7 = some true := by
  apply Ev.rounds
  obtain ⟨z, hz⟩ : ∃ z, laws_zzFits1.f v.f0 v.f1 v.f2 v.f3 v.f4 v.f5 v.f6 v.f7 = some z := by
    unfold laws_zzFits1.f
    (repeat' split) <;> exact ⟨_, rfl⟩
  cases z with
  | false => exact Ev.congr (fun k => by unfold laws_FnBindRoads.f; rw [hz, Option.bind_some, if_neg (by decide)]) (Ev.now _)
  | true =>
  refine Ev.congr (fun k => by unfold laws_FnBindRoads.f; rw [hz, Option.bind_some, if_pos rfl]) ?_
  rcases bdoc_ev v hv with ⟨D, hD⟩ | ⟨body, hw, hb, hvl, hD⟩
  · exact Ev.bind hD (Ev.congr (fun k => by rw [if_neg (by simp)]) (Ev.now _))
  obtain ⟨L, hL, hbL⟩ := wrl_of hw
  have hLL := wrl_length hL
  have hel := elements hL (by rw [← hbL]; exact hb) hvl
  rw [← hbL] at hel
  refine Ev.bind hD ?_
  refine Ev.congr (fun k => by rw [if_pos rfl]) (Ev.bind hel ?_)
  refine Ev.congr (f := fun k => laws_FnBindRoads.j0 k (docOf body) L false v.f0 v.f1 v.f2 v.f3 v.f4 v.f5 v.f6 v.f7) (fun k => ?_) ?_
  · rw [if_pos rfl]
    dsimp only
    rw [show ((L.length : Int) != (v.f7.length : Int)) = false by rw [hLL]; exact bne_self_eq_false _]
  · exact Ev.step (fun k => by rw [laws_FnBindRoads.j0, if_neg (by decide)]; rfl) (loop_ev v L body hw hb hvl (fun E hE => by have := part_len L E hE; rw [← hbL] at this; omega) v.f7 L hL [] [] rfl rfl rfl hLL)

end Go.Proofs.YtlcgakpnpdkjjaaDoor.PRd.VT
