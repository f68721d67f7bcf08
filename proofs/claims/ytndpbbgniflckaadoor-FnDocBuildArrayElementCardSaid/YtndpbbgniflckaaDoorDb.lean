/- The bytes of an array of values: what the specification writes, and what the program's loop builds. Conditions: as each theorem states them. -/
import Derived.Test.YtndpbbgniflckaaDoorProg
import Derived.Test.YtndpbbgniflckaaDoorHW
import Derived.Below
import Derived.Deep.Draws
import Derived.OwnWalk
import Derived.Tactics
import Derived.WalkKit
import Derived.KernelRfl
import Derived.RowKit3
import Derived.Deep.LoopGhost
import Derived.Deep.QuietTactic
import Derived.BigQuiet
import Derived.WideLaws
import Derived.Deep.DeepCutAuto
import Derived.Deep.CutBlock
import Derived.Laws.Rows
import Derived.Outline
import Derived.StillTailTactics
import Derived.Deep.RegionHeld3
import Derived.Test.YtndpbbgniflckaaDoorVTb
import Derived.Test.YtndpbbgniflckaaDoorPBax10
namespace Go.Proofs.YtndpbbgniflckaaDoor.PBa.VT
open Go.RowKit Go.Proofs.YtndpbbgniflckaaDoorW.PrintWords Go.Proofs.YtndpbbgniflckaaDoorW.PrintLast Go.Proofs.YtndpbbgniflckaaDoorW.PrintMore
set_option linter.unusedVariables false
set_option linter.unusedSimpArgs false
theorem dd_len : ∀ i : Nat, (Lib.decDigits i).length ≤ i + 1 := by
  intro i
  induction i using Nat.strongRecOn with
  | _ i ih =>
  rw [Lib.decDigits]
  by_cases h : i < 10
  · rw [dif_pos h]; simp
  · rw [dif_neg h, List.length_append]
    have := ih (i / 10) (by omega)
    simp only [List.length_cons, List.length_nil]
    omega
theorem dd_nz : ∀ i : Nat, ∀ x ∈ Lib.decDigits i, x ≠ 0 := by
  intro i
  induction i using Nat.strongRecOn with
  | _ i ih =>
  rw [Lib.decDigits]
  have one : ∀ d, d < 10 → UInt8.ofNat (48 + d) ≠ 0 := by
    intro d hd h
    have : d = 0 ∨ d = 1 ∨ d = 2 ∨ d = 3 ∨ d = 4 ∨ d = 5 ∨ d = 6 ∨ d = 7 ∨ d = 8 ∨ d = 9 := by omega
    rcases this with rfl | rfl | rfl | rfl | rfl | rfl | rfl | rfl | rfl | rfl <;> exact absurd h (by decide)
  by_cases h : i < 10
  · rw [dif_pos h]
    intro x hx
    rw [List.mem_singleton] at hx
    rw [hx]
    exact one i h
  · rw [dif_neg h]
    intro x hx
    rcases List.mem_append.1 hx with hx | hx
    · exact ih (i / 10) (by omega) x hx
    · rw [List.mem_singleton] at hx
      rw [hx]
      exact one (i % 10) (by omega)
/-- A number's text. -/
def num (i : Nat) : ByteArray := ⟨(Lib.decDigits i).toArray⟩
theorem num_size (i : Nat) : (num i).size ≤ i + 1 := by
  have := dd_len i
  show (Lib.decDigits i).toArray.size ≤ _
  simpa using this
open PL in
theorem str_one_ (d : Nat) (hd : d < 10) : strOfNums [wrap64 (48 + (d : Int)) % 256] = ⟨#[UInt8.ofNat (48 + d)]⟩ := by
  have : d = 0 ∨ d = 1 ∨ d = 2 ∨ d = 3 ∨ d = 4 ∨ d = 5 ∨ d = 6 ∨ d = 7 ∨ d = 8 ∨ d = 9 := by omega
  rcases this with rfl | rfl | rfl | rfl | rfl | rfl | rfl | rfl | rfl | rfl <;> decide +kernel
theorem digits_eq : ∀ (k i : Nat), i < k → i < 4294967296 → spec_DocDigits.f k (i : Int) = some (num i)
  | 0, i, h, _ => by omega
  | k + 1, i, h, hi => by
    unfold spec_DocDigits.f num
    by_cases h10 : i < 10
    · rw [if_pos (by omega), str_one_ i h10, Lib.decDigits, dif_pos h10]
    · have e1 : wrap64 (Int.tdiv (i : Int) 10) = ((i / 10 : Nat) : Int) := by
        rw [show Int.tdiv (i : Int) 10 = ((i / 10 : Nat) : Int) from rfl, w64 (by omega) (by omega)]
      have e2 : Int.tmod (i : Int) 10 = ((i % 10 : Nat) : Int) := rfl
      have hs : (num (i / 10)).size ≤ i / 10 + 1 := num_size _
      rw [if_neg (by omega), e1, digits_eq k (i / 10) (by omega) (by omega), Option.bind_some, Option.bind_some, e2, str_one_ (i % 10) (by omega)]
      have h1 : (⟨#[UInt8.ofNat (48 + i % 10)]⟩ : ByteArray).size = 1 := rfl
      rw [if_pos (by rw [h1]; omega)]
      congr 1
      apply ByteArray.ext
      rw [ByteArray.data_append]
      show (Lib.decDigits (i / 10)).toArray ++ _ = (Lib.decDigits i).toArray
      rw [show Lib.decDigits i = Lib.decDigits (i / 10) ++ [UInt8.ofNat (48 + i % 10)] by rw [Lib.decDigits, dif_neg h10]]
      simp
theorem digits_ev (i : Nat) (hi : i < 4294967296) : Ev (fun k => spec_DocDigits.f k (i : Int)) (num i) := ⟨i + 1, fun k hk => digits_eq k i (by omega) hi⟩
open PL in
theorem num_plain (i : Nat) : plainText (num i) = true := by
  rw [plainText_true]
  intro j hj
  rw [get_data (num i) j hj]
  exact dd_nz i _ (List.getElem_mem _)
theorem itoa_eq (i : Nat) (hi : i < 4294967296) : strconv_Itoa_54.f (i : Int) = some (num i) := by
  unfold strconv_Itoa_54.f
  rw [if_pos ⟨by omega, by omega⟩, Int.toNat_natCast]
  rfl
/-- An array's elements. -/
def kidsFrom : Nat → List S26 → List S31
  | _, [] => []
  | i, v :: r => ⟨num i, v⟩ :: kidsFrom (i + 1) r
theorem kids_length : ∀ (r : List S26) (i : Nat), (kidsFrom i r).length = r.length
  | [], _ => rfl
  | v :: r, i => by simp [kidsFrom, kids_length r (i + 1)]
theorem kids_mem : ∀ (r : List S26) (i : Nat) (e : S31), e ∈ kidsFrom i r → e.f1 ∈ r ∧ e.f0.size ≤ i + r.length + 1
  | [], _, e, h => by cases h
  | v :: r, i, e, h => by
    rcases List.mem_cons.1 h with rfl | h
    · exact ⟨List.mem_cons_self, by have := num_size i; simp only [List.length_cons]; omega⟩
    · obtain ⟨h1, h2⟩ := kids_mem r (i + 1) e h
      exact ⟨List.mem_cons_of_mem _ h1, by simp only [List.length_cons]; omega⟩
theorem rdV_at (pre r : List S26) (v : S26) : rd_T26 (pre ++ v :: r) (pre.length : Int) = v := by
  unfold rd_T26
  rw [Int.toNat_natCast]
  simp
theorem array_ev (l2 : List S26) (hl : l2.length ≤ 2147483647) : Ev (fun k => laws_docArray.f k l2) (4, ⟨#[]⟩, ⟨#[]⟩, 0, 0, 0, [], kidsFrom 0 l2) := by
  have loop : ∀ (r pre : List S26) (acc : List S31), l2 = pre ++ r → acc.length = pre.length →
      Ev (fun k => laws_docArray.l0 k l2 (pre.length : Int) 4 ⟨#[]⟩ ⟨#[]⟩ 0 0 0 acc) (4, ⟨#[]⟩, ⟨#[]⟩, 0, 0, 0, [], acc ++ kidsFrom pre.length r) := by
    intro r
    induction r with
    | nil =>
      intro pre acc he ha
      refine ⟨1, fun k hk => ?_⟩
      obtain ⟨k, rfl⟩ : ∃ q, k = q + 1 := ⟨k - 1, by omega⟩
      show laws_docArray.l0 (k + 1) _ _ _ _ _ _ _ _ _ = _
      rw [laws_docArray.l0, if_neg (by rw [he]; simp)]
      simp [kidsFrom]
    | cons v r ih =>
      intro pre acc he ha
      have hlen : l2.length = pre.length + (r.length + 1) := by rw [he]; simp
      have hv : rd_T26 l2 (pre.length : Int) = v := by rw [he]; exact rdV_at pre r v
      have h := ih (pre ++ [v]) (acc ++ [⟨num pre.length, v⟩]) (by rw [he]; simp) (by simp [ha])
      have e2 : wrap64 ((pre.length : Int) + 1) = (((pre ++ [v]).length : Nat) : Int) := by rw [w64 (by omega) (by omega)]; simp
      refine Ev.step (f := fun k => (spec_DocDigits.f k (pre.length : Int)).bind fun t => (if 0 ≤ (pre.length : Int) then (if acc.length < 1099511627776 then (laws_docArray.l0 k l2 (wrap64 ((pre.length : Int) + 1)) 4 ⟨#[]⟩ ⟨#[]⟩ 0 0 0 (acc ++ [(⟨t, v⟩ : S31)])) else (none)) else (none))) (fun k => ?_) ?_
      · rw [laws_docArray.l0, if_pos (by omega), hv]
      · refine Ev.bind (digits_ev pre.length (by omega)) ?_
        refine Ev.congr (fun k => by rw [if_pos (by omega), if_pos (by omega), e2]) ?_
        rw [show acc ++ kidsFrom pre.length (v :: r) = (acc ++ [⟨num pre.length, v⟩]) ++ kidsFrom (pre ++ [v]).length r by simp [kidsFrom]]
        exact h
  exact loop l2 [] [] rfl rfl
/-- The bytes of each value. -/
def Vals : List S26 → List (List Int) → Prop
  | [], [] => True
  | v :: r, d :: ds => Ev (fun k => spec_DocValue.f k v.f0 v.f1 v.f2 v.f3 v.f4 v.f5 v.f6 v.f7) d ∧ Vals r ds
  | _, _ => False
/-- An element's bytes. -/
def el (i : Nat) (v : S26) (d : List Int) : List Int := (v.f0 % 256) :: (bytesOf (num i) ++ 0 :: d)
def els : Nat → List S26 → List (List Int) → List Int
  | _, [], _ => []
  | _, _ :: _, [] => []
  | i, v :: r, d :: ds => el i v d ++ els (i + 1) r ds
theorem el_length (i : Nat) (v : S26) (d : List Int) : (el i v d).length = (num i).size + d.length + 2 := by
  simp only [el, List.length_cons, List.length_append, bytesOf_length]
  omega
theorem vals : ∀ (r : List S26) (i n b : Nat), SzL (kidsFrom i r) n b → n ≤ 1000 → b ≤ 65536 → (∀ v, v ∈ r → FitV v) → ∃ ds, Vals r ds ∧ (els i r ds).length ≤ b + 24 * n
  | [], i, n, b, _, _, _, _ => ⟨[], trivial, Nat.zero_le _⟩
  | v :: r, i, n, b, hs, hn, hb, hf => by
    cases hs with
    | cons _ _ n1 b1 n' b' h1 hr =>
    obtain ⟨d, ev, hl⟩ := value h1 (hf v List.mem_cons_self) (by omega) (by omega)
    obtain ⟨ds, h2, h3⟩ := vals r (i + 1) n' b' hr (by omega) (by omega) (fun x hx => hf x (List.mem_cons_of_mem _ hx))
    refine ⟨d :: ds, ⟨ev, h2⟩, ?_⟩
    have e : els i (v :: r) (d :: ds) = el i v d ++ els (i + 1) r ds := rfl
    have hz : (⟨num i, v⟩ : S31).f0.size = (num i).size := rfl
    rw [e, List.length_append, el_length]
    omega
theorem doc_form_ (l : List Int) (hl : l.length ≤ 1000000) : ((spec_DocInt32.f ([] : List Int) (wrap64 ((l.length : Int) + 5))).bind fun t => (if t.length + l.length < 140737488355328 then ((some (t ++ l : List Int)).bind fun y => (if y.length < 140737488355328 then (some (y ++ [0])) else (none))) else (none))) = some (le4 ((l.length + 5 : Nat) : Int) ++ (l ++ [0])) := by
  rw [int32_some _ _ (by simp), w64 (by omega) (by omega)]
  have h1 : (([] : List Int) ++ le4 ((l.length : Int) + 5)).length + l.length < 140737488355328 := by rw [List.length_append, le4_length, List.length_nil]; omega
  have h2 : (([] : List Int) ++ le4 ((l.length : Int) + 5) ++ l).length < 140737488355328 := by rw [List.length_append, List.length_append, le4_length, List.length_nil]; omega
  simp only [Option.bind_some, h1, h2, if_true]
  rw [List.nil_append, List.append_assoc]
  rfl
/-- The specification's bytes of an array. -/
theorem spec_ev : ∀ (r : List S26) (ds : List (List Int)) (K pre : List S31) (acc : List Int), Vals r ds → K = pre ++ kidsFrom pre.length r → K.length ≤ 100000 → acc.length + (els pre.length r ds).length ≤ 100000 →
    Ev (fun k => spec_DocBytes.l0 k K acc (pre.length : Int)) (le4 (((acc ++ els pre.length r ds).length + 5 : Nat) : Int) ++ ((acc ++ els pre.length r ds) ++ [0]))
  | [], [], K, pre, acc, _, he, hM, ha => by
    refine ⟨1, fun k hk => ?_⟩
    obtain ⟨k, rfl⟩ : ∃ q, k = q + 1 := ⟨k - 1, by omega⟩
    show spec_DocBytes.l0 (k + 1) _ _ _ = _
    have e0 : acc ++ els pre.length [] [] = acc := by simp [els]
    rw [spec_DocBytes.l0, if_neg (by rw [he]; simp [kidsFrom]), e0]
    exact doc_form_ acc (by omega)
  | [], _ :: _, K, pre, acc, h, _, _, _ => h.elim
  | _ :: _, [], K, pre, acc, h, _, _, _ => h.elim
  | v :: r, d :: ds, K, pre, acc, ⟨ev, h⟩, he, hM, ha => by
    have e1 : els pre.length (v :: r) (d :: ds) = el pre.length v d ++ els (pre.length + 1) r ds := rfl
    rw [e1, List.length_append] at ha
    have hk : kidsFrom pre.length (v :: r) = ⟨num pre.length, v⟩ :: kidsFrom (pre.length + 1) r := rfl
    have hlen : K.length = pre.length + (r.length + 1) := by rw [he, hk, List.length_append, List.length_cons, kids_length]
    have hrd : rd_T31 K (pre.length : Int) = ⟨num pre.length, v⟩ := by rw [he, hk]; exact rd_at pre _ _
    have hel := el_length pre.length v d
    have ih := spec_ev r ds K (pre ++ [⟨num pre.length, v⟩]) (acc ++ el pre.length v d) h (by rw [he, hk]; simp) hM (by simp only [List.length_append, List.length_cons, List.length_nil]; simp only [Nat.zero_add]; omega)
    have hh : spec_DocHead.f v.f0 (num pre.length) = some ([v.f0 % 256] ++ bytesOf (num pre.length) ++ [0]) := by
      unfold spec_DocHead.f
      have y1 : ([v.f0 % 256] : List Int).length + (num pre.length).size < 140737488355328 := by simp only [List.length_cons, List.length_nil]; omega
      have y2 : ([v.f0 % 256] ++ bytesOf (num pre.length) : List Int).length < 140737488355328 := by rw [List.length_append, bytesOf_length]; simp only [List.length_cons, List.length_nil]; omega
      simp only [Option.bind_some, y1, y2, if_true]
    have evE : Ev (fun k => spec_DocElem.f k (num pre.length) v.f0 v.f1 v.f2 v.f3 v.f4 v.f5 v.f6 v.f7) (el pre.length v d) := by
      refine Ev.step (f := fun k => (spec_DocValue.f k v.f0 v.f1 v.f2 v.f3 v.f4 v.f5 v.f6 v.f7).bind fun t => (if ([v.f0 % 256] ++ bytesOf (num pre.length) ++ [0] : List Int).length + t.length < 140737488355328 then (some ([v.f0 % 256] ++ bytesOf (num pre.length) ++ [0] ++ t)) else (none))) (fun k => by rw [spec_DocElem.f, hh]; rfl) ?_
      refine Ev.bind ev (Ev.congr (fun k => ?_) (Ev.now _))
      rw [if_pos (by simp only [List.length_append, bytesOf_length, List.length_cons, List.length_nil]; omega)]
      simp [el]
    have e2 : wrap64 ((pre.length : Int) + 1) = (((pre ++ [⟨num pre.length, v⟩] : List S31).length : Nat) : Int) := by rw [w64 (by omega) (by omega)]; simp
    rw [e1, show acc ++ (el pre.length v d ++ els (pre.length + 1) r ds) = acc ++ el pre.length v d ++ els (pre.length + 1) r ds from (List.append_assoc _ _ _).symm]
    have e3 : (pre ++ [⟨num pre.length, v⟩] : List S31).length = pre.length + 1 := by simp
    rw [e3] at ih
    refine Ev.step (f := fun k => (spec_DocElem.f k (num pre.length) v.f0 v.f1 v.f2 v.f3 v.f4 v.f5 v.f6 v.f7).bind fun t => (if acc.length + t.length < 140737488355328 then (spec_DocBytes.l0 k K (acc ++ t) (wrap64 ((pre.length : Int) + 1))) else (none))) (fun k => ?_) ?_
    · rw [spec_DocBytes.l0, if_pos (by omega), if_pos (by omega), hrd]
    · refine Ev.bind evE ?_
      exact Ev.congr (fun k => by rw [if_pos (by omega), e2, e3]) ih
/-- The values as the program's own. -/
def core : List S26 → List (List Int) → List S64
  | v :: r, d :: ds => ⟨v.f0 % 256, d⟩ :: core r ds
  | _, _ => []
def raws : List S26 → List (List Int) → List S37
  | v :: r, d :: ds => ⟨v.f0, d⟩ :: raws r ds
  | _, _ => []
theorem raws_length : ∀ (r : List S26) (ds : List (List Int)), Vals r ds → (raws r ds).length = r.length
  | [], [], _ => rfl
  | [], _ :: _, h => h.elim
  | _ :: _, [], h => h.elim
  | v :: r, d :: ds, h => by simp [raws, raws_length r ds h.2]
theorem core_length : ∀ (r : List S26) (ds : List (List Int)), Vals r ds → (core r ds).length = r.length
  | [], [], _ => rfl
  | [], _ :: _, h => h.elim
  | _ :: _, [], h => h.elim
  | v :: r, d :: ds, h => by simp [core, core_length r ds h.2]
theorem rdR_at (pre r : List S37) (v : S37) : rd_T37 (pre ++ v :: r) (pre.length : Int) = v := by
  unfold rd_T37
  rw [Int.toNat_natCast]
  simp
theorem rdC_at (pre r : List S64) (v : S64) : rd_T64 (pre ++ v :: r) (pre.length : Int) = v := by
  unfold rd_T64
  rw [Int.toNat_natCast]
  simp
theorem cores_ev : ∀ (r : List S26) (ds : List (List Int)) (L pre : List S37) (acc : List S64), Vals r ds → L = pre ++ raws r ds → L.length ≤ 100000 → acc.length = pre.length →
    Ev (fun k => impl_cores.l0 k acc L (L.length : Int) (pre.length : Int)) (acc ++ core r ds)
  | [], [], L, pre, acc, _, he, hM, ha => by
    refine ⟨1, fun k hk => ?_⟩
    obtain ⟨k, rfl⟩ : ∃ q, k = q + 1 := ⟨k - 1, by omega⟩
    show impl_cores.l0 (k + 1) _ _ _ _ = _
    rw [impl_cores.l0, if_neg (by rw [he]; simp [raws])]
    simp [core]
  | [], _ :: _, L, pre, acc, h, _, _, _ => h.elim
  | _ :: _, [], L, pre, acc, h, _, _, _ => h.elim
  | v :: r, d :: ds, L, pre, acc, ⟨_, h⟩, he, hM, ha => by
    have hr : raws (v :: r) (d :: ds) = ⟨v.f0, d⟩ :: raws r ds := rfl
    have hlen : L.length = pre.length + ((raws r ds).length + 1) := by rw [he, hr]; simp
    have hrd : rd_T37 L (pre.length : Int) = ⟨v.f0, d⟩ := by rw [he, hr]; exact rdR_at pre _ _
    have ih := cores_ev r ds L (pre ++ [⟨v.f0, d⟩]) (acc ++ [⟨v.f0 % 256, d⟩]) h (by rw [he, hr]; simp) hM (by simp [ha])
    have e2 : wrap64 ((pre.length : Int) + 1) = (((pre ++ [⟨v.f0, d⟩] : List S37).length : Nat) : Int) := by rw [w64 (by omega) (by omega)]; simp
    rw [show acc ++ core (v :: r) (d :: ds) = acc ++ [⟨v.f0 % 256, d⟩] ++ core r ds by simp [core]]
    refine Ev.step (fun k => ?_) ih
    have hc : impl_core.f v.f0 d = some (v.f0 % 256, d) := rfl
    rw [impl_cores.l0, if_pos (by omega), if_pos (by omega), if_pos (by omega), hrd, hc, Option.bind_some, if_pos (by omega), e2]
theorem ave_eq (acc : List Int) (t : Int) (s : ByteArray) (d : List Int) (hs : plainText s = true) (hl : acc.length + s.size + d.length ≤ 1000000) : bsoncore_AppendValueElement.f acc s t d = some (acc ++ (t :: (bytesOf s ++ 0 :: d))) := by
  have hb := bytesOf_length s
  unfold bsoncore_AppendValueElement.f bsoncore_AppendHeader.f bsoncore_isValidCString.f bsoncore_AppendType.f
  rw [hs]
  simp only [Option.bind_some, if_true]
  rw [if_pos (by omega), Option.bind_some, if_pos (by simp only [List.length_append, List.length_cons, List.length_nil]; omega)]
  rw [if_pos (by simp only [List.length_append, List.length_cons, List.length_nil]; omega)]
  rw [Option.bind_some, if_pos (by simp only [List.length_append, List.length_cons, List.length_nil]; omega)]
  simp
theorem build_ev : ∀ (r : List S26) (ds : List (List Int)) (L pre : List S64) (acc : List Int) (idx : Int) (res : List Int), Vals r ds → L = pre ++ core r ds → L.length ≤ 100000 → acc.length + (els pre.length r ds).length ≤ 500000 →
    Ev (fun k => (if (acc ++ els pre.length r ds).length < 140737488355328 then ((some ((acc ++ els pre.length r ds) ++ [0] : List Int)).bind fun y433 => (if 0 ≤ idx then (if idx ≤ (y433.length : Int) then ((bsoncore_UpdateLength.f y433 idx (wrap32 (((y433.drop (idx : Int).toNat).length : Int)))).bind fun t440 => (some t440)) else (none)) else (none))) else (none))) res →
    Ev (fun k => bsoncore_BuildArray.l0 k acc idx L (L.length : Int) (pre.length : Int)) res
  | [], [], L, pre, acc, idx, res, _, he, hM, ha, hres => by
    refine Ev.step (fun k => ?_) hres
    have e0 : acc ++ els pre.length [] [] = acc := by simp [els]
    rw [bsoncore_BuildArray.l0, if_neg (by rw [he]; simp [core]), e0]
  | [], _ :: _, L, pre, acc, idx, res, h, _, _, _, _ => h.elim
  | _ :: _, [], L, pre, acc, idx, res, h, _, _, _, _ => h.elim
  | v :: r, d :: ds, L, pre, acc, idx, res, ⟨_, h⟩, he, hM, ha, hres => by
    have hr : core (v :: r) (d :: ds) = ⟨v.f0 % 256, d⟩ :: core r ds := rfl
    have e1 : els pre.length (v :: r) (d :: ds) = el pre.length v d ++ els (pre.length + 1) r ds := rfl
    rw [e1, ← List.append_assoc] at hres
    rw [e1, List.length_append] at ha
    have hel := el_length pre.length v d
    have hlen : L.length = pre.length + ((core r ds).length + 1) := by rw [he, hr]; simp
    have hrd : rd_T64 L (pre.length : Int) = ⟨v.f0 % 256, d⟩ := by rw [he, hr]; exact rdC_at pre _ _
    have e3 : (pre ++ [⟨v.f0 % 256, d⟩] : List S64).length = pre.length + 1 := by simp
    have ih := build_ev r ds L (pre ++ [⟨v.f0 % 256, d⟩]) (acc ++ el pre.length v d) idx res h (by rw [he, hr]; simp) hM (by rw [e3, List.length_append]; omega) (by rw [e3]; exact hres)
    have e2 : wrap64 ((pre.length : Int) + 1) = (((pre ++ [⟨v.f0 % 256, d⟩] : List S64).length : Nat) : Int) := by rw [w64 (by omega) (by omega)]; simp
    refine Ev.step (fun k => ?_) ih
    rw [bsoncore_BuildArray.l0, if_pos (by omega), if_pos (by omega), if_pos (by omega), itoa_eq pre.length (by omega), Option.bind_some, hrd]
    have ha2 := ave_eq acc (v.f0 % 256) (num pre.length) d (num_plain _) (by omega)
    show (bsoncore_AppendValueElement.f acc (num pre.length) (v.f0 % 256) d).bind _ = _
    rw [ha2, Option.bind_some, e2]
    rfl
theorem put4_at (A B : List Int) (v : Int) (h0 : 0 ≤ v) (h1 : v < 4294967296) : put4 (A ++ [0, 0, 0, 0] ++ B) A.length v = A ++ le4 v ++ B := by
  have e : v / 16777216 % 256 = v / 16777216 := by omega
  unfold put4 le4
  rw [e]
  simp [List.set_append]

end Go.Proofs.YtndpbbgniflckaaDoor.PBa.VT
