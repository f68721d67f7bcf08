/- Plain laws on the told functions of this seat, without memory. Conditions: as each theorem states them. -/
import Derived.Test.YtanecebppagakaaGreatDoorProg
import Derived.Test.YtanecebppagakaaGreatDoorHW
import Derived.Below
import Derived.Deep.Draws
import Derived.OwnWalk
import Derived.Tactics
import Derived.WalkKit
import Derived.KernelRfl
import Derived.RowKit3
import Derived.Deep.LoopGhost
import Derived.Deep.QuietTactic
import Derived.BigQuiet
import Derived.WideLaws
import Derived.Deep.DeepCutAuto
import Derived.Deep.CutBlock
import Derived.Laws.Rows
import Derived.Outline
import Derived.StillTailTactics
import Derived.Deep.RegionHeld3
import Derived.Test.YtanecebppagakaaGreatDoorShx
import Derived.Test.YtanecebppagakaaGreatDoorPSxx15
import Derived.Test.YtanecebppagakaaGreatDoorPSxx14
import Derived.Test.YtanecebppagakaaGreatDoorPSxx8
import Derived.Test.YtanecebppagakaaGreatDoorPSxx3
namespace Go.Proofs.YtanecebppagakaaGreatDoor.PSx.VT
open Go.RowKit Go.Proofs.YtanecebppagakaaGreatDoorW.PrintWords Go.Proofs.YtanecebppagakaaGreatDoorW.PrintLast Go.Proofs.YtanecebppagakaaGreatDoorW.PrintMore
set_option linter.unusedVariables false
set_option linter.unusedSimpArgs false
theorem Ev.uniq_ {α : Type} {g : Nat → Option α} {r s : α} (h : Ev g r) (k : Ev g s) : r = s := by
  obtain ⟨K, h⟩ := h
  obtain ⟨K', k⟩ := k
  have a := h (max K K') (by omega)
  have b := k (max K K') (by omega)
  exact Option.some.inj (a.symm.trans b)
theorem kids_form : ∀ (r : List S95) (n b : Nat), SzL r n b → n ≤ 1000 → b ≤ 65536 → (∀ e, e ∈ r → FitV e.f1) → ∀ (K pre : List S95) (acc : List Int), K = pre ++ r → K.length ≤ M → acc.length + b + 24 * n ≤ 100000 →
    ∃ body, Ev (fun k => spec_DocBytes.l0 k K acc (pre.length : Int)) (le4 ((body.length + 5 : Nat) : Int) ++ (body ++ [0])) ∧ body.length ≤ acc.length + b + 24 * n := by
  intro r
  induction r with
  | nil =>
    intro n b hs hn hb hk K pre acc he hM ha
    refine ⟨acc, ⟨1, fun k hk => ?_⟩, by omega⟩
    obtain ⟨k, rfl⟩ : ∃ q, k = q + 1 := ⟨k - 1, by omega⟩
    show spec_DocBytes.l0 (k + 1) _ _ _ = _
    rw [spec_DocBytes.l0, if_neg (by rw [he]; simp)]
    exact doc_form acc (by omega)
  | cons e r ihr =>
    intro n b hs hn hb hk K pre acc he hM ha
    cases hs with
    | cons _ _ n1 b1 n' b' h1 hr =>
    have hM' : K.length ≤ 140737488351232 := hM
    have hlen : K.length = pre.length + (r.length + 1) := by rw [he]; simp
    have he' : rd_T95 K (pre.length : Int) = e := by rw [he]; exact rd_at pre r e
    obtain ⟨lv, ev1, hl1⟩ := value h1 (hk e (by simp)) (by omega) (by omega)
    obtain ⟨hd, hhd, hhl⟩ := head_some e.f1.f0 e.f0 (by omega)
    obtain ⟨l, ev2, hl2⟩ := ihr n' b' hr (by omega) (by omega) (fun x hx => hk x (by simp [hx])) K (pre ++ [e]) (acc ++ (hd ++ lv)) (by rw [he]; simp) hM (by simp only [List.length_append]; omega)
    refine ⟨l, ?_, by simp only [List.length_append] at hl2; omega⟩
    have hsum : hd.length + lv.length < 140737488355328 := by omega
    have evE : Ev (fun k => spec_DocElem.f k e.f0 e.f1.f0 e.f1.f1 e.f1.f2 e.f1.f3 e.f1.f4 e.f1.f5 e.f1.f6 e.f1.f7) (hd ++ lv) := by
      refine Ev.step (f := fun k => (spec_DocValue.f k e.f1.f0 e.f1.f1 e.f1.f2 e.f1.f3 e.f1.f4 e.f1.f5 e.f1.f6 e.f1.f7).bind fun t300 => (if hd.length + t300.length < 140737488355328 then (some (hd ++ t300)) else (none))) (fun k => by rw [spec_DocElem.f, hhd]; rfl) ?_
      refine Ev.bind ev1 ?_
      exact Ev.congr (fun k => by rw [if_pos hsum]) (Ev.now _)
    refine Ev.step (f := fun k => (spec_DocElem.f k e.f0 e.f1.f0 e.f1.f1 e.f1.f2 e.f1.f3 e.f1.f4 e.f1.f5 e.f1.f6 e.f1.f7).bind fun t => (if acc.length + t.length < 140737488355328 then (spec_DocBytes.l0 k K (acc ++ t) (wrap64 ((pre.length : Int) + 1))) else (none))) (fun k => ?_) ?_
    · rw [spec_DocBytes.l0, if_pos (by omega), if_pos (by omega), he']
    · refine Ev.bind evE ?_
      have e2 : wrap64 ((pre.length : Int) + 1) = (((pre ++ [e]).length : Nat) : Int) := by rw [w64 (by omega) (by omega)]; simp
      exact Ev.congr (fun k => by rw [if_pos (by simp only [List.length_append]; omega), e2]) ev2
/-- What a right value is written as has its kind's shape. -/
theorem shape_value {v : S44} {n b : Nat} (h : SzV v n b) (hv : FitV v) (hn : n ≤ 1000) (hb : b ≤ 65536) (hkn : spec_DocKnown.f v.f0 = some true) (hm : (v.f0 = 7 → v.f6.length = 12) ∧ (v.f0 = 12 → v.f6.length = 12) ∧ (v.f0 = 11 → spec_DocPlain.f (v.f1.size + 1) v.f1 = some true ∧ spec_DocPlain.f (v.f2.size + 1) v.f2 = some true)) :
    ∃ l, Ev (fun k => spec_DocValue.f k v.f0 v.f1 v.f2 v.f3 v.f4 v.f5 v.f6 v.f7) l ∧ Shape v.f0 l ∧ l.length ≤ 100000 := by
  obtain ⟨l', ev', hl'⟩ := value h hv hn hb
  cases h with
  | mk _ n b hs =>
  obtain ⟨body, ev, hl⟩ := kids_form v.f7 n b hs (by omega) (by omega) hv.kid v.f7 [] [] rfl hv.kids (by simp only [List.length_nil]; omega)
  simp only [List.length_nil] at hl
  have evB : Ev (fun k => spec_DocBytes.f k v.f7) (le4 ((body.length + 5 : Nat) : Int) ++ (body ++ [0])) := Ev.step (fun k => by rw [spec_DocBytes.f]; rfl) ev
  obtain ⟨l, h1, h2⟩ := dv_shape v (by omega) (by omega) (by omega) (by omega) body (by omega) evB hkn hm
  have := Ev.uniq_ h1 ev'
  subst this
  exact ⟨l, h1, h2, by omega⟩
/-- What docFine asks. -/
theorem fine_ev (v : S44) (hv : FitV v) : Ev (fun k => laws_docFine.f k v.f0 v.f1 v.f2 v.f3 v.f4 v.f5 v.f6 v.f7) false ∨ ∃ n b, SzV v n b ∧ n ≤ 300 ∧ b ≤ 5000 ∧ docR 200 v.f0 v.f1 v.f2 v.f3 v.f4 v.f5 v.f6 v.f7 = some true ∧ Ev (fun k => laws_docFine.f k v.f0 v.f1 v.f2 v.f3 v.f4 v.f5 v.f6 v.f7) true := by
  obtain ⟨c, h1, h2, ev, hsz⟩ := count 300 (by decide) v hv
  have ev' : Ev (fun k => laws_docCount.f k v.f0 v.f1 v.f2 v.f3 v.f4 v.f5 v.f6 v.f7 300) (c : Int) := ev
  by_cases hc : (c : Int) ≤ 300
  · obtain ⟨b, hb⟩ := hsz (by omega)
    obtain ⟨q, hq⟩ := right_some 200 v hv
    have hdr : spec_DocRight.f v.f0 v.f1 v.f2 v.f3 v.f4 v.f5 v.f6 v.f7 = some q := by
      unfold spec_DocRight.f spec_docRight.f
      rw [if_pos (by decide), show (200 : Int).toNat = 200 from rfl, hq]; rfl
    cases q with
    | false =>
      left
      refine Ev.bind ev' ⟨0, fun k _ => ?_⟩
      show (if (c : Int) ≤ 300 then _ else _) = _
      rw [if_pos hc, hdr]; rfl
    | true =>
      have evb := bytes hb hv (by omega)
      by_cases hbb : b ≤ 5000
      · right
        refine ⟨c, b, hb, by omega, hbb, hq, Ev.bind ev' (Ev.congr (f := fun k => (laws_docBytes.f k v.f0 v.f1 v.f2 v.f3 v.f4 v.f5 v.f6 v.f7).bind fun t => some (decide (t ≤ 5000))) (fun k => by rw [if_pos hc, hdr]; rfl) (Ev.bind evb ⟨0, fun k _ => ?_⟩))⟩
        show some (decide ((b : Int) ≤ 5000)) = _
        rw [decide_eq_true (by omega)]
      · left
        refine Ev.bind ev' (Ev.congr (f := fun k => (laws_docBytes.f k v.f0 v.f1 v.f2 v.f3 v.f4 v.f5 v.f6 v.f7).bind fun t => some (decide (t ≤ 5000))) (fun k => by rw [if_pos hc, hdr]; rfl) (Ev.bind evb ⟨0, fun k _ => ?_⟩))
        show some (decide ((b : Int) ≤ 5000)) = _
        rw [decide_eq_false (by omega)]
  · left
    refine Ev.bind ev' ⟨0, fun k _ => ?_⟩
    show (if (c : Int) ≤ 300 then _ else _) = _
    rw [if_neg hc]

/-- A beginning of a number of four bytes and what follows it: too short for the number, or the number and a beginning of what follows. -/
theorem pre4 (m : Int) (y : List Int) (c : Nat) (hc : c < 4 + y.length) : ((le4 m ++ y).take c).length < 4 ∨ ∃ y', (le4 m ++ y).take c = le4 m ++ y' ∧ y'.length < y.length := by
  by_cases h : c < 4
  · left
    rw [List.length_take]
    omega
  · right
    refine ⟨y.take (c - 4), ?_, by rw [List.length_take]; omega⟩
    rw [List.take_append, le4_length, List.take_of_length_le (by rw [le4_length]; omega)]
theorem i32_short (x : List Int) (h : x.length < 4) : binaryutil_ReadI32.f x = some (0, x, false) := by
  unfold binaryutil_ReadI32.f
  rw [if_pos (by omega)]
theorem rl_short (x : List Int) (h : x.length < 4) : bsoncore_ReadLength.f x = some (0, x, false) := by
  unfold bsoncore_ReadLength.f
  rw [i32_short x h]
  rfl
theorem i64_short (x : List Int) (h : x.length < 8) : binaryutil_ReadI64.f x = some (0, x, false) := by
  unfold binaryutil_ReadI64.f
  rw [if_pos (by omega)]
theorem u32_short (x : List Int) (h : x.length < 4) : binaryutil_ReadU32.f x = some (0, x, false) := by
  unfold binaryutil_ReadU32.f
  rw [if_pos h]
theorem u64_short (x : List Int) (h : x.length < 8) : binaryutil_ReadU64.f x = some (0, x, false) := by
  unfold binaryutil_ReadU64.f
  rw [if_pos h]
theorem u32_long (x : List Int) (h : 4 ≤ x.length) (hw : ∀ z ∈ x, (Lit.int .u8 z).wf = true) : binaryutil_ReadU32.f x = some (Lib.leZ (x.take 4), x.drop 4, true) := by
  unfold binaryutil_ReadU32.f
  rw [if_neg (by omega), if_pos (fun z hz => hw z (List.mem_of_mem_take hz))]
theorem u64_long (x : List Int) (h : 8 ≤ x.length) (hw : ∀ z ∈ x, (Lit.int .u8 z).wf = true) : binaryutil_ReadU64.f x = some (Lib.leZ (x.take 8), x.drop 8, true) := by
  unfold binaryutil_ReadU64.f
  rw [if_neg (by omega), if_pos (fun z hz => hw z (List.mem_of_mem_take hz))]
theorem ts_short (x : List Int) (h : x.length < 8) (hw : ∀ z ∈ x, (Lit.int .u8 z).wf = true) : bsoncore_ReadTimestamp.f x = some (0, 0, x, false) := by
  unfold bsoncore_ReadTimestamp.f
  by_cases h4 : x.length < 4
  · rw [u32_short x h4]
    rfl
  · rw [u32_long x (by omega) hw, Option.bind_some, if_pos rfl, u32_short (x.drop 4) (by rw [List.length_drop]; omega)]
    rfl
theorem d128_short (x : List Int) (h : x.length < 16) (hw : ∀ z ∈ x, (Lit.int .u8 z).wf = true) : bsoncore_ReadDecimal128.f x = some (0, 0, x, false) := by
  unfold bsoncore_ReadDecimal128.f
  by_cases h4 : x.length < 8
  · rw [u64_short x h4]
    rfl
  · rw [u64_long x (by omega) hw, Option.bind_some, if_pos rfl, u64_short (x.drop 8) (by rw [List.length_drop]; omega)]
    rfl
theorem own_ok (x : List Int) (h : x.length ≤ 1000000) : impl_own.f x = some x := by
  unfold impl_own.f
  rw [if_pos (by simp only [List.length_nil]; omega), List.nil_append]
theorem no_ok (x : List Int) (hx : x.length ≤ 1000000) : impl_Read.no x = some (0, ⟨#[]⟩, ⟨#[]⟩, 0, 0, 0, [], [], x, false) := by
  unfold impl_Read.no
  rw [own_ok x hx]
  rfl
/-- What is not read is none. -/
abbrev RF (k : Int) (x : List Int) : Prop := Ev (fun q => impl_Read.f q k x) (0, ⟨#[]⟩, ⟨#[]⟩, 0, 0, 0, [], [], x, false)
theorem rs_short (x : List Int) (h : x.length < 4) (q : Nat) : bsoncore_readstring.f q x = some (⟨#[]⟩, x, false) := by
  unfold bsoncore_readstring.f
  rw [rl_short x h]
  rfl
theorem rs_few (m : Nat) (y : List Int) (hm : m ≤ 200000) (h : y.length < m) (q : Nat) : bsoncore_readstring.f (q + 1) (le4 (m : Int) ++ y) = some (⟨#[]⟩, le4 (m : Int) ++ y, false) := by
  unfold bsoncore_readstring.f
  rw [readlen m y (by omega), Option.bind_some, if_pos rfl, if_pos (by rw [List.length_append, le4_length]; omega), if_pos (by rw [List.length_drop, List.length_append, le4_length, w64 (by omega) (by omega)]; omega), bsoncore_readstring.j0, if_pos rfl]
theorem rs_ok (m : Nat) (y : List Int) (hm : m + 1 ≤ 200000) (h : m + 1 ≤ y.length) (q : Nat) : bsoncore_readstring.f (q + 1) (le4 ((m + 1 : Nat) : Int) ++ y) = some (strOfNums (y.take m), y.drop (m + 1), true) := by
  unfold bsoncore_readstring.f
  have e1 : wrap32 (((m + 1 : Nat) : Int) - 1) = (m : Int) := by rw [w32 (by omega) (by omega)]; omega
  have e2 : (((m + 1 : Nat) : Int) == 0) = false := beq_eq_false_iff_ne.2 (by omega)
  rw [readlen (m + 1) y (by omega), Option.bind_some, if_pos rfl, if_pos (by rw [List.length_append, le4_length]; omega), if_neg (by rw [List.length_drop, List.length_append, le4_length, w64 (by omega) (by omega)]; omega), bsoncore_readstring.j0]
  simp only [e1, e2]
  rw [if_neg (by decide), if_pos (by omega), if_pos (by omega), if_pos (by omega), if_pos (by omega), Int.toNat_natCast, Int.toNat_natCast]
theorem lb_short (x : List Int) (h : x.length < 4) : bsoncore_readLengthBytes.f x = some ([], x, false) := by
  unfold bsoncore_readLengthBytes.f
  rw [rl_short x h]
  rfl
theorem lb_few (m : Nat) (y : List Int) (hm : m ≤ 200000) (h4 : 4 ≤ m) (h : y.length + 4 < m) : bsoncore_readLengthBytes.f (le4 (m : Int) ++ y) = some ([], le4 (m : Int) ++ y, false) := by
  unfold bsoncore_readLengthBytes.f
  rw [readlen m y (by omega), Option.bind_some, if_pos rfl, if_neg (by omega), if_pos (by rw [List.length_append, le4_length, w64 (by omega) (by omega)]; omega)]
theorem bin_short (x : List Int) (h : x.length < 4) : bsoncore_ReadBinary.f x = some (0, [], x, false) := by
  unfold bsoncore_ReadBinary.f
  rw [rl_short x h]
  rfl
theorem bin_few (m : Nat) (y : List Int) (hm : m ≤ 200000) (h : y.length < m + 1) : bsoncore_ReadBinary.f (le4 (m : Int) ++ y) = some (0, [], le4 (m : Int) ++ y, false) := by
  unfold bsoncore_ReadBinary.f
  rw [readlen m y (by omega), Option.bind_some, if_pos rfl]
  by_cases h1 : y.length < 1
  · rw [if_pos (by show (y.length : Int) < 1; omega)]
  · rw [if_neg (by show ¬ (y.length : Int) < 1; omega), if_pos (by show (0 : Int) < (y.length : Int); omega), if_pos (by show (1 : Int) ≤ (y.length : Int); omega), if_pos (by rw [List.length_drop, w64 (by omega) (by omega)]; show ((y.length - 1 : Nat) : Int) < (m : Int); omega)]
theorem cws_short (x : List Int) (h : x.length < 4) (q : Nat) : bsoncore_ReadCodeWithScope.f (q + 1) x = some (⟨#[]⟩, [], x, false) := by
  unfold bsoncore_ReadCodeWithScope.f
  rw [rl_short x h, Option.bind_some, if_neg (by simp), bsoncore_ReadCodeWithScope.j0, if_pos rfl]
theorem cws_few (m : Nat) (y : List Int) (hm : m ≤ 200000) (h : y.length + 4 < m) (q : Nat) : bsoncore_ReadCodeWithScope.f (q + 1) (le4 (m : Int) ++ y) = some (⟨#[]⟩, [], le4 (m : Int) ++ y, false) := by
  unfold bsoncore_ReadCodeWithScope.f
  rw [readlen m y (by omega), Option.bind_some, if_pos rfl, decide_eq_true (by rw [List.length_append, le4_length, w64 (by omega) (by omega)]; omega), bsoncore_ReadCodeWithScope.j0, if_pos rfl]
/-- A text without a byte 0 holds no end of a name. -/
theorem idx_none (a : List Int) (h : ∀ z ∈ a, ¬ (UInt8.ofNat z.toNat) = 0) : bytes_IndexByte.f a 0 = some (-1) := by
  have key : ∀ l : List UInt8, (∀ z ∈ l, ¬ z = 0) → Lib.indexByte l 0 = -1 := by
    intro l
    induction l with
    | nil => intro _; rfl
    | cons z l ih =>
      intro h
      rw [Lib.indexByte, if_neg (by simpa using h z (by simp)), ih (fun y hy => h y (by simp [hy])), if_pos (by decide)]
  refine congrArg some (key _ ?_)
  intro z hz
  obtain ⟨y, hy, rfl⟩ := List.mem_map.1 hz
  exact h y hy
theorem text_nz (s : ByteArray) (hs : s.size ≤ 1000000) (h : spec_DocPlain.f (s.size + 1) s = some true) : ∀ z ∈ bytesOf s, ¬ (UInt8.ofNat z.toNat) = 0 := by
  intro z hz
  have h1 := PL.plain_mem (plain_nz s hs h)
  have : UInt8.ofNat z.toNat ∈ Lib.bytesOf (bytesOf s) := List.mem_map.2 ⟨z, hz, rfl⟩
  rw [PL.toNums_bytesOf] at this
  exact h1 _ this
theorem cs_none (x : List Int) (h : ∀ z ∈ x, ¬ (UInt8.ofNat z.toNat) = 0) : binaryutil_ReadCString.f x = some (⟨#[]⟩, x, false) := by
  unfold binaryutil_ReadCString.f binaryutil_ReadCStringBytes.f
  rw [idx_none x h]
  rfl
theorem cs_ok (a : ByteArray) (hs : a.size ≤ 1000000) (h : spec_DocPlain.f (a.size + 1) a = some true) (r : List Int) (hr : r.length ≤ 1000000) : binaryutil_ReadCString.f (bytesOf a ++ 0 :: r) = some (a, r, true) := by
  unfold binaryutil_ReadCString.f binaryutil_ReadCStringBytes.f
  have hlen : (bytesOf a ++ 0 :: r).length = a.size + 1 + r.length := by simp only [List.length_append, List.length_cons, bytesOf_length]; omega
  have e1 : wrap64 ((a.size : Int) + 1) = ((a.size + 1 : Nat) : Int) := by rw [w64 (by omega) (by omega)]; omega
  have ht : (bytesOf a ++ 0 :: r).take a.size = bytesOf a := by
    rw [← bytesOf_length a]
    exact List.take_left
  have hd : (bytesOf a ++ 0 :: r).drop (a.size + 1) = r := by
    rw [← bytesOf_length a, List.drop_append]
    simp
  rw [idx_plain a hs h r, Option.bind_some, if_neg (by omega), if_pos (by omega), if_pos (by omega), if_pos (by rw [e1]; omega), if_pos (by rw [e1]; omega), e1, Int.toNat_natCast, Int.toNat_natCast, ht, hd, Option.bind_some, if_pos rfl, PL.strOfNums_bytesOf]
/-- The beginning of a regular expression that lacks bytes: its pattern, or a part of it, alone; or the pattern, its end, and a part of the options. -/
theorem rx_cut (a b : ByteArray) (ha : a.size ≤ 200000) (hb : b.size ≤ 200000) (pa : spec_DocPlain.f (a.size + 1) a = some true) (pb : spec_DocPlain.f (b.size + 1) b = some true) (c : Nat) (hc : c < a.size + b.size + 2) :
    (∀ z ∈ (bytesOf a ++ [0] ++ bytesOf b ++ [0]).take c, ¬ (UInt8.ofNat z.toNat) = 0) ∨ ∃ y, (bytesOf a ++ [0] ++ bytesOf b ++ [0]).take c = bytesOf a ++ 0 :: y ∧ y.length ≤ b.size ∧ ∀ z ∈ y, ¬ (UInt8.ofNat z.toNat) = 0 := by
  have e : bytesOf a ++ [0] ++ bytesOf b ++ [0] = bytesOf a ++ (0 :: (bytesOf b ++ [0])) := by simp
  rw [e]
  by_cases h : c ≤ a.size
  · left
    rw [List.take_append_of_le_length (by rw [bytesOf_length]; exact h)]
    exact fun z hz => text_nz a (by omega) pa z (List.mem_of_mem_take hz)
  · right
    obtain ⟨d, rfl⟩ : ∃ d, c = a.size + 1 + d := ⟨c - a.size - 1, by omega⟩
    refine ⟨(bytesOf b).take d, ?_, by rw [List.length_take, bytesOf_length]; omega, fun z hz => text_nz b (by omega) pb z (List.mem_of_mem_take hz)⟩
    rw [List.take_append, bytesOf_length, List.take_of_length_le (by rw [bytesOf_length]; omega), show a.size + 1 + d - a.size = d + 1 by omega, List.take_succ_cons, List.take_append_of_le_length (by rw [bytesOf_length]; omega)]

theorem rs_zero (y : List Int) (q : Nat) : bsoncore_readstring.f (q + 1) (le4 ((0 : Nat) : Int) ++ y) = some (⟨#[]⟩, le4 ((0 : Nat) : Int) ++ y, false) := by
  unfold bsoncore_readstring.f
  rw [readlen 0 y (by omega), Option.bind_some, if_pos rfl, if_pos (by rw [List.length_append, le4_length]; omega)]
  by_cases h : ((((le4 ((0 : Nat) : Int) ++ y).drop 4).length : Nat) : Int) < wrap64 ((0 : Nat) : Int)
  · rw [if_pos h, bsoncore_readstring.j0, if_pos rfl]
  · rw [if_neg h, show (((0 : Nat) : Int) == 0) = true from rfl, bsoncore_readstring.j0, if_pos rfl]
theorem read_of {k : Int} {x : List Int} (hx : x.length ≤ 1000000) (hf : ∀ q, impl_Read.f (q + 1) k x = impl_Read.no x) : RF k x := by
  refine ⟨1, fun q hq => ?_⟩
  obtain ⟨q, rfl⟩ : ∃ r, q = r + 1 := ⟨q - 1, by omega⟩
  show impl_Read.f (q + 1) k x = _
  rw [hf q, no_ok x hx]
open bsoncore_valueLength in
/-- Of a right value's bytes no beginning that lacks bytes is read by its kind's function. -/
theorem shape_cut {k : Int} {l : List Int} (hs : Shape k l) (hl0 : l.length ≤ 200000) (c : Nat) (hc : c < l.length) : RF k (l.take c) := by
  have hx : (l.take c).length ≤ 1000000 := by rw [List.length_take]; omega
  have hxc : (l.take c).length = c := by rw [List.length_take]; omega
  have hwf : (∀ z ∈ l, (Lit.int .u8 z).wf = true) → ∀ z ∈ l.take c, (Lit.int .u8 z).wf = true := fun h z hz => h z (List.mem_of_mem_take hz)
  cases hs with
  | w8 h hl hw =>
    have hw' := hwf hw
    generalize l.take c = x at *
    rcases h with rfl | rfl | rfl | rfl
    · refine read_of hx (fun q => ?_)
      unfold impl_Read.f
      rw [if_pos rfl, u64_short x (by omega)]
      rfl
    · refine read_of hx (fun q => ?_)
      unfold impl_Read.f bsoncore_ReadDateTime.f
      rw [i64_short x (by omega)]
      (repeat rw [if_neg (by decide)])
      rw [if_pos rfl]
      rfl
    · refine read_of hx (fun q => ?_)
      unfold impl_Read.f
      rw [ts_short x (by omega) hw']
      (repeat rw [if_neg (by decide)])
      rw [if_pos rfl]
      rfl
    · refine read_of hx (fun q => ?_)
      unfold impl_Read.f bsoncore_ReadInt64.f
      rw [i64_short x (by omega)]
      (repeat rw [if_neg (by decide)])
      rw [if_pos rfl]
      rfl
  | w16 h hl hw =>
    have hw' := hwf hw
    generalize l.take c = x at *
    subst h
    refine read_of hx (fun q => ?_)
    unfold impl_Read.f
    rw [d128_short x (by omega) hw']
    (repeat rw [if_neg (by decide)])
    rw [if_pos rfl]
    rfl
  | w4 h hl =>
    generalize l.take c = x at *
    subst h
    refine read_of hx (fun q => ?_)
    unfold impl_Read.f bsoncore_ReadInt32.f
    rw [i32_short x (by omega)]
    (repeat rw [if_neg (by decide)])
    rw [if_pos rfl]
    rfl
  | w1 h hl =>
    generalize l.take c = x at *
    subst h
    refine read_of hx (fun q => ?_)
    have e : bsoncore_ReadBoolean.f x = some (false, x, false) := by
      unfold bsoncore_ReadBoolean.f
      rw [if_pos (by omega)]
    unfold impl_Read.f
    rw [e]
    (repeat rw [if_neg (by decide)])
    rw [if_pos rfl]
    rfl
  | w12 h hl =>
    generalize l.take c = x at *
    subst h
    refine read_of hx (fun q => ?_)
    unfold impl_Read.f
    (repeat rw [if_neg (by decide)])
    rw [if_pos rfl, if_pos (by omega)]
  | w0 h hl => omega
  | pt h m y hl hy =>
    have e : ∀ q, bsoncore_readstring.f (q + 1) (l.take c) = some (⟨#[]⟩, l.take c, false) := by
      intro q
      rw [hl]
      rcases pre4 (m : Int) y c (by rw [hl, List.length_append, le4_length] at hc; exact hc) with h4 | ⟨y', hy', hlt⟩
      · exact rs_short _ h4 _
      · rw [hy']
        have h5 : l.length = 4 + y.length := by rw [hl, List.length_append, le4_length]
        exact rs_few m y' (by omega) (by omega) q
    generalize l.take c = x at *
    rcases h with rfl | rfl | rfl
    · refine read_of hx (fun q => ?_)
      unfold impl_Read.f bsoncore_ReadString.f
      rw [e q]
      (repeat rw [if_neg (by decide)])
      rw [if_pos rfl]
      rfl
    · refine read_of hx (fun q => ?_)
      unfold impl_Read.f bsoncore_ReadJavaScript.f
      rw [e q]
      (repeat rw [if_neg (by decide)])
      rw [if_pos rfl]
      rfl
    · refine read_of hx (fun q => ?_)
      unfold impl_Read.f bsoncore_ReadSymbol.f
      rw [e q]
      (repeat rw [if_neg (by decide)])
      rw [if_pos rfl]
      rfl
  | pd h m y hl hy =>
    have h5 : l.length = 4 + y.length := by rw [hl, List.length_append, le4_length]
    have e : bsoncore_readLengthBytes.f (l.take c) = some ([], l.take c, false) := by
      rw [hl]
      rcases pre4 (m : Int) y c (by omega) with h4 | ⟨y', hy', hlt⟩
      · exact lb_short _ h4
      · rw [hy']
        exact lb_few m y' (by omega) (by omega) (by omega)
    have e2 : ∀ q, bsoncore_ReadCodeWithScope.f (q + 1) (l.take c) = some (⟨#[]⟩, [], l.take c, false) := by
      intro q
      rw [hl]
      rcases pre4 (m : Int) y c (by omega) with h4 | ⟨y', hy', hlt⟩
      · exact cws_short _ h4 q
      · rw [hy']
        exact cws_few m y' (by omega) (by omega) q
    have o0 := own_ok [] (by simp)
    generalize l.take c = x at *
    rcases h with rfl | rfl | rfl
    · refine read_of hx (fun q => ?_)
      unfold impl_Read.f bsoncore_ReadDocument.f
      rw [e]
      (repeat rw [if_neg (by decide)])
      rw [if_pos rfl, Option.bind_some, Option.bind_some, if_neg (by simp), o0]
      rfl
    · refine read_of hx (fun q => ?_)
      unfold impl_Read.f bsoncore_ReadArray.f
      rw [e]
      (repeat rw [if_neg (by decide)])
      rw [if_pos rfl, Option.bind_some, Option.bind_some, if_neg (by simp), o0]
      rfl
    · refine read_of hx (fun q => ?_)
      unfold impl_Read.f
      rw [e2 q]
      (repeat rw [if_neg (by decide)])
      rw [if_pos rfl, Option.bind_some, if_neg (by simp), o0]
      rfl
  | pb h m y hl hy =>
    have h5 : l.length = 4 + y.length := by rw [hl, List.length_append, le4_length]
    have e : bsoncore_ReadBinary.f (l.take c) = some (0, [], l.take c, false) := by
      rw [hl]
      rcases pre4 (m : Int) y c (by omega) with h4 | ⟨y', hy', hlt⟩
      · exact bin_short _ h4
      · rw [hy']
        exact bin_few m y' (by omega) (by omega)
    have o0 := own_ok [] (by simp)
    generalize l.take c = x at *
    subst h
    refine read_of hx (fun q => ?_)
    unfold impl_Read.f
    rw [e]
    (repeat rw [if_neg (by decide)])
    rw [if_pos rfl, Option.bind_some, if_neg (by simp), o0]
    rfl
  | pp h m y hl hy =>
    have h5 : l.length = 4 + y.length := by rw [hl, List.length_append, le4_length]
    have e : ∀ q, ∃ s r ok, bsoncore_readstring.f (q + 1) (l.take c) = some (s, r, ok) ∧ (ok = true → r.length < 12) := by
      intro q
      rw [hl]
      rcases pre4 (m : Int) y c (by omega) with h4 | ⟨y', hy', hlt⟩
      · exact ⟨_, _, _, rs_short _ h4 _, fun h => by cases h⟩
      · rw [hy']
        by_cases h6 : y'.length < m
        · exact ⟨_, _, _, rs_few m y' (by omega) h6 q, fun h => by cases h⟩
        · by_cases h0 : m = 0
          · subst h0
            exact ⟨_, _, _, rs_zero y' q, fun h => by cases h⟩
          obtain ⟨n, rfl⟩ : ∃ n, m = n + 1 := ⟨m - 1, by omega⟩
          exact ⟨_, _, _, rs_ok n y' (by omega) (by omega) q, fun _ => by rw [List.length_drop]; omega⟩
    generalize l.take c = x at *
    subst h
    refine read_of hx (fun q => ?_)
    obtain ⟨s, r, ok, e1, e2⟩ := e q
    unfold impl_Read.f
    (repeat rw [if_neg (by decide)])
    rw [if_pos rfl, e1, Option.bind_some, if_pos]
    show ok = false ∨ r.length < 12
    cases ok with
    | false => exact Or.inl rfl
    | true => exact Or.inr (e2 rfl)
  | rx h a b ha hb hl =>
    have h5 : l.length = a.size + b.size + 2 := by rw [hl]; simp only [List.length_append, List.length_cons, List.length_nil, bytesOf_length]; omega
    have e : bsoncore_ReadRegex.f (l.take c) = some (⟨#[]⟩, ⟨#[]⟩, l.take c, false) := by
      unfold bsoncore_ReadRegex.f
      rw [hl]
      rcases rx_cut a b (by omega) (by omega) ha hb c (by omega) with h6 | ⟨y, hy, h7, h8⟩
      · rw [cs_none _ h6]
        rfl
      · rw [hy, cs_ok a (by omega) ha y (by omega), Option.bind_some, if_pos rfl, cs_none y h8]
        rfl
    generalize l.take c = x at *
    subst h
    refine read_of hx (fun q => ?_)
    unfold impl_Read.f
    rw [e]
    (repeat rw [if_neg (by decide)])
    rw [if_pos rfl]
    rfl

/-- How long the value says that it is: longer than what there is, or nothing. -/
abbrev VL (k : Int) (x : List Int) : Prop := ∃ (n : Int) (ok : Bool), Ev (fun q => bsoncore_valueLength.f q x k) (n, ok) ∧ (ok = true → (x.length : Int) < n ∧ n ≤ 1000000)
theorem vl_yes {k : Int} {x : List Int} (n : Nat) (h : ∀ q, bsoncore_valueLength.f (q + 5) x k = some ((n : Int), true)) (h1 : x.length < n) (h2 : n ≤ 1000000) : VL k x := by
  refine ⟨(n : Int), true, ⟨5, fun q hq => ?_⟩, fun _ => ⟨by omega, by omega⟩⟩
  obtain ⟨q, rfl⟩ : ∃ r, q = r + 5 := ⟨q - 5, by omega⟩
  exact h q
theorem vl_no {k : Int} {x : List Int} (n : Int) (h : ∀ q, bsoncore_valueLength.f (q + 5) x k = some (n, false)) : VL k x := by
  refine ⟨n, false, ⟨5, fun q hq => ?_⟩, fun h => by cases h⟩
  obtain ⟨q, rfl⟩ : ∃ r, q = r + 5 := ⟨q - 5, by omega⟩
  exact h q
theorem j4_no (n : Int) (h : 0 ≤ n) (q : Nat) : bsoncore_valueLength.j4 (q + 1) n false = some (n, false) := by
  rw [bsoncore_valueLength.j4, if_neg (by omega)]
theorem vs_text (k : Int) (h : k = 2 ∨ k = 13 ∨ k = 14) (x : List Int) (hx : x.length < 4) (q : Nat) : bsoncore_valueLength.f (q + 5) x k = some (4, false) := by
  have e := rl_short x hx
  rcases h with rfl | rfl | rfl <;>
  simp [bsoncore_valueLength.f, bsoncore_valueLength.j0, bsoncore_valueLength.j1, bsoncore_valueLength.j2, e, show wrap32 4 = 4 from by unfold wrap32; omega, bsoncore_valueLength.j4]
theorem vs_doc (k : Int) (h : k = 3 ∨ k = 4 ∨ k = 15) (x : List Int) (hx : x.length < 4) (q : Nat) : bsoncore_valueLength.f (q + 5) x k = some (0, false) := by
  have e := rl_short x hx
  rcases h with rfl | rfl | rfl <;>
  simp [bsoncore_valueLength.f, bsoncore_valueLength.j0, e, bsoncore_valueLength.j4]
theorem vs_bin (x : List Int) (hx : x.length < 4) (q : Nat) : bsoncore_valueLength.f (q + 5) x 5 = some (5, false) := by
  have e := rl_short x hx
  simp [bsoncore_valueLength.f, bsoncore_valueLength.j0, e, show wrap32 5 = 5 from by unfold wrap32; omega, bsoncore_valueLength.j4]
theorem vs_ptr (x : List Int) (hx : x.length < 4) (q : Nat) : bsoncore_valueLength.f (q + 5) x 12 = some (16, false) := by
  have e := rl_short x hx
  simp [bsoncore_valueLength.f, bsoncore_valueLength.j0, e, show wrap32 16 = 16 from by unfold wrap32; omega, bsoncore_valueLength.j4]
theorem vs_rx1 (x : List Int) (h : bytes_IndexByte.f x 0 = some (-1)) (q : Nat) : bsoncore_valueLength.f (q + 5) x 11 = some (0, false) := by
  simp [bsoncore_valueLength.f, bsoncore_valueLength.j0, bsoncore_valueLength.j1, bsoncore_valueLength.j2, bsoncore_valueLength.j3, h, bsoncore_valueLength.j4]
theorem vs_rx2 (a : ByteArray) (y : List Int) (hs : a.size ≤ 1000000) (ha : spec_DocPlain.f (a.size + 1) a = some true) (h : bytes_IndexByte.f y 0 = some (-1)) (q : Nat) : bsoncore_valueLength.f (q + 5) (bytesOf a ++ 0 :: y) 11 = some (0, false) := by
  have i1 := idx_plain a hs ha y
  have hlen : (bytesOf a ++ 0 :: y).length = a.size + 1 + y.length := by simp only [List.length_append, List.length_cons, bytesOf_length]; omega
  have hd : (bytesOf a ++ 0 :: y).drop (a.size + 1) = y := by
    rw [← bytesOf_length a, List.drop_append]
    simp
  generalize bytesOf a ++ 0 :: y = L at *
  have e1 : wrap64 ((a.size : Int) + 1) = ((a.size + 1 : Nat) : Int) := by rw [w64 (by omega) (by omega)]; omega
  rw [bsoncore_valueLength.f, if_neg (by decide), if_neg (by decide), bsoncore_valueLength.j0, if_neg (by decide), if_neg (by decide), if_neg (by decide), if_neg (by decide), if_neg (by decide), if_neg (by decide), if_neg (by decide), bsoncore_valueLength.j1, if_neg (by decide), if_neg (by decide), if_neg (by decide), if_neg (by decide), if_neg (by decide), bsoncore_valueLength.j2, if_neg (by decide), if_neg (by decide), if_neg (by decide), if_neg (by decide), bsoncore_valueLength.j3, if_neg (by decide), if_neg (by decide), if_pos (by decide), i1, Option.bind_some, if_neg (by omega), e1, if_pos (by omega), if_pos (by omega), Int.toNat_natCast, hd, h, Option.bind_some, if_pos (by decide), j4_no 0 (by omega)]
theorem shape_vl {k : Int} {l : List Int} (hs : Shape k l) (hl0 : l.length ≤ 200000) (c : Nat) (hc : c < l.length) : VL k (l.take c) := by
  have hxc : (l.take c).length = c := by rw [List.length_take]; omega
  cases hs with
  | w8 h hl hw =>
    generalize l.take c = x at *
    refine vl_yes 8 (fun q => ?_) (by omega) (by omega)
    rcases h with rfl | rfl | rfl | rfl <;> simp [bsoncore_valueLength.f, bsoncore_valueLength.j0, bsoncore_valueLength.j1, bsoncore_valueLength.j4]
  | w16 h hl hw =>
    generalize l.take c = x at *
    subst h
    exact vl_yes 16 (fun q => by simp [bsoncore_valueLength.f, bsoncore_valueLength.j0, bsoncore_valueLength.j1, bsoncore_valueLength.j4]) (by omega) (by omega)
  | w4 h hl =>
    generalize l.take c = x at *
    subst h
    exact vl_yes 4 (fun q => by simp [bsoncore_valueLength.f, bsoncore_valueLength.j0, bsoncore_valueLength.j1, bsoncore_valueLength.j4]) (by omega) (by omega)
  | w1 h hl =>
    generalize l.take c = x at *
    subst h
    exact vl_yes 1 (fun q => by simp [bsoncore_valueLength.f, bsoncore_valueLength.j0, bsoncore_valueLength.j4]) (by omega) (by omega)
  | w12 h hl =>
    generalize l.take c = x at *
    subst h
    exact vl_yes 12 (fun q => by simp [bsoncore_valueLength.f, bsoncore_valueLength.j0, bsoncore_valueLength.j1, bsoncore_valueLength.j2, bsoncore_valueLength.j3, bsoncore_valueLength.j4]) (by omega) (by omega)
  | w0 h hl => omega
  | pt h m y hl hy =>
    have h5 : l.length = 4 + y.length := by rw [hl, List.length_append, le4_length]
    rw [hl] at hxc ⊢
    rcases pre4 (m : Int) y c (by omega) with h4 | ⟨y', hy', hlt⟩
    · exact vl_no 4 (vs_text k h _ h4)
    · rw [hy'] at hxc ⊢
      have h6 : (le4 (m : Int) ++ y').length = 4 + y'.length := by rw [List.length_append, le4_length]
      exact vl_yes (m + 4) (fun q => vl_text k h m y' (by omega) q) (by omega) (by omega)
  | pd h m y hl hy =>
    have h5 : l.length = 4 + y.length := by rw [hl, List.length_append, le4_length]
    rw [hl] at hxc ⊢
    rcases pre4 (m : Int) y c (by omega) with h4 | ⟨y', hy', hlt⟩
    · exact vl_no 0 (vs_doc k h _ h4)
    · rw [hy'] at hxc ⊢
      have h6 : (le4 (m : Int) ++ y').length = 4 + y'.length := by rw [List.length_append, le4_length]
      exact vl_yes m (fun q => vl_doc k h m y' (by omega) q) (by omega) (by omega)
  | pb h m y hl hy =>
    have h5 : l.length = 4 + y.length := by rw [hl, List.length_append, le4_length]
    subst h
    rw [hl] at hxc ⊢
    rcases pre4 (m : Int) y c (by omega) with h4 | ⟨y', hy', hlt⟩
    · exact vl_no 5 (vs_bin _ h4)
    · rw [hy'] at hxc ⊢
      have h6 : (le4 (m : Int) ++ y').length = 4 + y'.length := by rw [List.length_append, le4_length]
      exact vl_yes (m + 5) (fun q => vl_bin m y' (by omega) q) (by omega) (by omega)
  | pp h m y hl hy =>
    have h5 : l.length = 4 + y.length := by rw [hl, List.length_append, le4_length]
    subst h
    rw [hl] at hxc ⊢
    rcases pre4 (m : Int) y c (by omega) with h4 | ⟨y', hy', hlt⟩
    · exact vl_no 16 (vs_ptr _ h4)
    · rw [hy'] at hxc ⊢
      have h6 : (le4 (m : Int) ++ y').length = 4 + y'.length := by rw [List.length_append, le4_length]
      exact vl_yes (m + 16) (fun q => vl_ptr m y' (by omega) q) (by omega) (by omega)
  | rx h a b ha hb hl =>
    have h5 : l.length = a.size + b.size + 2 := by rw [hl]; simp only [List.length_append, List.length_cons, List.length_nil, bytesOf_length]; omega
    subst h
    rw [hl]
    rcases rx_cut a b (by omega) (by omega) ha hb c (by omega) with h6 | ⟨y, hy, h7, h8⟩
    · exact vl_no 0 (vs_rx1 _ (idx_none _ h6))
    · rw [hy]
      exact vl_no 0 (vs_rx2 a y (by omega) ha (idx_none _ h8))
theorem rv_cut {k : Int} {x : List Int} (h : VL k x) (hx : x.length ≤ 1000000) : Ev (fun q => bsoncore_readValue.f q x k) ([], x, false) := by
  obtain ⟨n, ok, ev, h1⟩ := h
  refine Ev.bind ev ⟨1, fun q hq => ?_⟩
  obtain ⟨q, rfl⟩ : ∃ r, q = r + 1 := ⟨q - 1, by omega⟩
  cases ok with
  | false =>
    show (if false = true then _ else bsoncore_readValue.j0 (q + 1) x n true) = _
    rw [if_neg (by decide), bsoncore_readValue.j0, if_pos rfl]
  | true =>
    obtain ⟨h2, h3⟩ := h1 rfl
    show (if true = true then bsoncore_readValue.j0 (q + 1) x n (decide (wrap64 n > (x.length : Int))) else _) = _
    rw [if_pos rfl, w64 (by omega) (by omega), decide_eq_true (by omega), bsoncore_readValue.j0, if_pos rfl]
/-- The value as bytes, and its check. -/
theorem value_cut {k : Int} {x : List Int} (hk : k % 256 = k) (h : VL k x) (hx : x.length ≤ 1000000) : Ev (fun q => impl_ReadValue.f q k x) (0, [], x, false) := by
  have e1 : Ev (fun q => bsoncore_ReadValue.f q x (k % 256)) (0, [], x, false) := by
    rw [hk]
    refine Ev.bind (rv_cut h hx) ⟨0, fun q _ => ?_⟩
    show (if false = true then _ else some ((0 : Int), ([] : List Int), x, false)) = _
    rw [if_neg (by decide)]
  refine Ev.bind e1 ⟨0, fun q _ => ?_⟩
  have o0 : impl_raw.f 0 [] = some (0, []) := by
    unfold impl_raw.f
    rw [own_ok [] (by simp), Option.bind_some, show wrap64 0 = 0 from by unfold wrap64; omega]
  show ((impl_raw.f 0 []).bind fun bt => (impl_own.f x).bind fun t => some (bt.1, bt.2, t, false)) = _
  rw [o0, own_ok x hx]
  rfl
theorem check_cut {k : Int} {x : List Int} (hk : k % 256 = k) (h : VL k x) (hx : x.length ≤ 1000000) : Ev (fun q => impl_ValidateValue.f q k x) 1 := by
  have e1 : Ev (fun q => bsoncore_readValue.f q x (k % 256)) ([], x, false) := by
    rw [hk]
    exact rv_cut h hx
  refine Ev.bind e1 ⟨0, fun q _ => ?_⟩
  rfl
section
variable (a : ByteArray) (x : List Int) (k : Int)
/-- A kind, a name, and what is left of a value. -/
abbrev EB : List Int := k :: (bytesOf a ++ 0 :: x)
theorem eb_len : (EB a x k).length = a.size + x.length + 2 := by
  simp only [EB, List.length_append, List.length_cons, bytesOf_length]
  omega
theorem ebx_name (j : Nat) (hj : j < a.size) : rd (EB a x k) ((j + 1 : Nat) : Int) = ((a.get! j).toNat : Int) := by
  have e3 := PL.bt_get a (j : Int) (by omega) (by omega)
  rw [Int.toNat_natCast] at e3
  rw [← e3, ← rd_bytesOf]
  unfold rd
  rw [Int.toNat_natCast, Int.toNat_natCast, List.getD_cons_succ, List.getD_eq_getElem?_getD, List.getD_eq_getElem?_getD, List.getElem?_append_left (by rw [bytesOf_length]; exact hj)]
theorem ebx_zero : rd (EB a x k) ((a.size + 1 : Nat) : Int) = 0 := by
  unfold rd
  rw [Int.toNat_natCast, List.getD_cons_succ, List.getD_eq_getElem?_getD, List.getElem?_append_right (by rw [bytesOf_length]; exact Nat.le_refl _), bytesOf_length, Nat.sub_self]
  rfl
theorem ebx_rest : (EB a x k).drop (a.size + 2) = x := by
  show (bytesOf a ++ 0 :: x).drop (a.size + 1) = x
  rw [← bytesOf_length a, List.drop_append]
  simp
theorem elem_end (hs : a.size ≤ 65536) (h : VL k x) (hx : x.length ≤ 1000000) : Ev (fun q => bsoncore_ReadElement.l0 q (EB a x k) k ((a.size + 1 : Nat) : Int)) ([], EB a x k, false) := by
  have hlen := eb_len a x k
  have hz := ebx_zero a x k
  have hr := ebx_rest a x k
  obtain ⟨n, ok, ev, h1⟩ := h
  generalize EB a x k = L at *
  have e1 : wrap64 (((a.size + 1 : Nat) : Int) + 1) = ((a.size + 2 : Nat) : Int) := by rw [w64 (by omega) (by omega)]; omega
  refine Ev.step (f := fun q => bsoncore_ReadElement.j1 q L k ((a.size + 1 : Nat) : Int) (rd L ((a.size + 1 : Nat) : Int) != 0)) (fun q => by rw [bsoncore_ReadElement.l0, if_pos (by omega), if_pos (by omega)]) ?_
  rw [hz]
  refine Ev.step (f := fun q => (bsoncore_valueLength.f q (L.drop (a.size + 2)) k).bind fun bt => (if bt.2 = true then (if (wrap64 ((wrap64 (((a.size + 1 : Nat) : Int) + 1)) + (wrap64 (bt.1)))) > (L.length : Int) then (some (([] : List Int), L, false)) else (if 0 ≤ (wrap64 ((wrap64 (((a.size + 1 : Nat) : Int) + 1)) + (wrap64 (bt.1)))) then (if (wrap64 ((wrap64 (((a.size + 1 : Nat) : Int) + 1)) + (wrap64 (bt.1)))) ≤ (L.length : Int) then (some ((L.take ((wrap64 ((wrap64 (((a.size + 1 : Nat) : Int) + 1)) + (wrap64 (bt.1)))) : Int).toNat), (L.drop ((wrap64 ((wrap64 (((a.size + 1 : Nat) : Int) + 1)) + (wrap64 (bt.1)))) : Int).toNat), true)) else (none)) else (none))) else (some (([] : List Int), L, false)))) (fun q => ?_) ?_
  · rw [bsoncore_ReadElement.j1, if_neg (by decide), if_neg (by omega), if_pos (by rw [e1]; omega), if_pos (by rw [e1]; omega), show (wrap64 (((a.size + 1 : Nat) : Int) + 1)).toNat = a.size + 2 by rw [e1, Int.toNat_natCast]]
  · rw [hr]
    refine Ev.bind ev ?_
    refine Ev.congr (fun q => ?_) (Ev.now _)
    cases ok with
    | false => rw [if_neg (by simp)]
    | true =>
      obtain ⟨h2, h3⟩ := h1 rfl
      have e2 : wrap64 (wrap64 (((a.size + 1 : Nat) : Int) + 1) + wrap64 n) = ((a.size + 2 : Nat) : Int) + n := by rw [e1, w64 (x := n) (by omega) (by omega), w64 (by omega) (by omega)]
      rw [if_pos rfl, e2, if_pos (by omega)]
theorem elem_cut (hp : spec_DocPlain.f (a.size + 1) a = some true) (hs : a.size ≤ 65536) (h : VL k x) (hx : x.length ≤ 1000000) : Ev (fun q => bsoncore_ReadElement.f q (EB a x k)) ([], EB a x k, false) := by
  have hlen := eb_len a x k
  have hpl := plain_nz a (by omega) hp
  have scan : ∀ j, j ≤ a.size → Ev (fun q => bsoncore_ReadElement.l0 q (EB a x k) k ((a.size - j + 1 : Nat) : Int)) ([], EB a x k, false) := by
    intro j
    induction j with
    | zero => intro _; exact elem_end a x k hs h hx
    | succ j ih =>
      intro hj
      have h1 := ih (by omega)
      have hx := ebx_name a x k (a.size - (j + 1)) (by omega)
      have hne := hpl (a.size - (j + 1)) (by omega)
      have hb : (rd (EB a x k) ((a.size - (j + 1) + 1 : Nat) : Int) != 0) = true := by
        rw [hx, bne_iff_ne]
        intro h0
        exact hne (UInt8.toNat_inj.1 (by show _ = 0; omega))
      refine Ev.step (f := fun q => bsoncore_ReadElement.j1 q (EB a x k) k ((a.size - (j + 1) + 1 : Nat) : Int) true) (fun q => by rw [bsoncore_ReadElement.l0, if_pos (by omega), if_pos (by omega), hb]) ?_
      refine Ev.step (f := fun q => bsoncore_ReadElement.l0 q (EB a x k) k ((a.size - j + 1 : Nat) : Int)) (fun q => ?_) h1
      rw [bsoncore_ReadElement.j1, if_pos rfl, show wrap64 (((a.size - (j + 1) + 1 : Nat) : Int) + 1) = ((a.size - j + 1 : Nat) : Int) by rw [w64 (by omega) (by omega)]; omega]
  have h0 := scan a.size (Nat.le_refl _)
  rw [Nat.sub_self] at h0
  refine Ev.congr (fun q => ?_) h0
  show bsoncore_ReadElement.f q (EB a x k) = _
  unfold bsoncore_ReadElement.f
  rw [if_neg (by omega), if_pos (by omega)]
  rfl
end
theorem copy_ok (l : List Int) (hl : l.length ≤ 1000000) : laws_docCopy.f l = some l := by
  unfold laws_docCopy.f
  rw [Option.bind_some, if_pos (by simp only [List.length_nil]; omega), List.nil_append]
theorem awake : Ev (fun k => laws_docAwake.f k) true := Ev.of (fun k => laws_docAwake.mono k) (k := 60) (by decide +kernel)

theorem ielem_cut {a : ByteArray} {x : List Int} {k : Int} (hp : spec_DocPlain.f (a.size + 1) a = some true) (hs : a.size ≤ 65536) (h : VL k x) (hx : x.length ≤ 200000) : Ev (fun q => impl_ReadElement.f q (EB a x k)) ([], EB a x k, false) := by
  refine Ev.bind (elem_cut a x k hp hs h (by omega)) ⟨0, fun q _ => ?_⟩
  have hlen := eb_len a x k
  show ((impl_own.f []).bind fun t => (impl_own.f (EB a x k)).bind fun u => some (t, u, false)) = _
  rw [own_ok [] (by simp), own_ok (EB a x k) (by omega)]
  rfl
theorem last {v : S44} {lv : List Int} {a : ByteArray} (hsh : Shape v.f0 lv) (hll : lv.length ≤ 100000) (hkn : spec_DocKnown.f v.f0 = some true) (hp : spec_DocPlain.f (a.size + 1) a = some true) (hs : a.size ≤ 65536) (c : Nat) (hc : c < lv.length) : Ev (fun k => laws_FnDocShort.j3 k a (c : Int) lv v.f0 v.f1 v.f2 v.f3 v.f4 v.f5 v.f6 v.f7) true := by
  have hmod := known_mod hkn
  have hxl : (lv.take c).length = c := by rw [List.length_take]; omega
  have hr := shape_cut hsh (by omega) c hc
  have hvl := shape_vl hsh (by omega) c hc
  have hv := value_cut hmod hvl (by omega)
  have hck := check_cut hmod hvl (by omega)
  have hel := ielem_cut hp hs hvl (by omega)
  have hcp := copy_ok (lv.take c) (by omega)
  have hhd : spec_DocHead.f v.f0 a = some ([v.f0] ++ bytesOf a ++ [0]) := by
    unfold spec_DocHead.f
    have y1 : ([v.f0] : List Int).length + a.size < 140737488355328 := by simp only [List.length_cons, List.length_nil]; omega
    have y2 : ([v.f0] ++ bytesOf a : List Int).length < 140737488355328 := by rw [List.length_append, bytesOf_length]; simp only [List.length_cons, List.length_nil]; omega
    rw [hmod]
    simp only [Option.bind_some, y1, y2, if_true]
  have hEB : [v.f0] ++ bytesOf a ++ [0] ++ lv.take c = EB a (lv.take c) v.f0 := by simp [EB]
  have hhl : ([v.f0] ++ bytesOf a ++ [0] : List Int).length = a.size + 2 := by simp only [List.length_append, List.length_cons, List.length_nil, bytesOf_length]; omega
  generalize hX : lv.take c = x at *
  refine Ev.step (fun k => by show laws_FnDocShort.j3 (k + 1) a (c : Int) lv v.f0 v.f1 v.f2 v.f3 v.f4 v.f5 v.f6 v.f7 = _; rw [laws_FnDocShort.j3, if_pos (by omega), if_pos (by omega), Int.toNat_natCast, hX, hcp, Option.bind_some]) ?_
  refine Ev.bind hr ?_
  refine Ev.congr (fun k => by rw [Option.bind_some]) ?_
  refine Ev.bind hv ?_
  refine Ev.congr (fun k => by rw [hhd, Option.bind_some, Option.bind_some, if_pos (by rw [hhl]; omega), hEB]) ?_
  refine Ev.bind hel ?_
  refine Ev.bind awake ?_
  refine Ev.congr (fun k => by rw [if_pos rfl, if_neg (by simp), if_neg (by simp), if_neg (by simp), Option.bind_some]) ?_
  exact Ev.bind hck (Ev.now _)
theorem holds (a : ByteArray) (ha : a.size ≤ 140737488351232) (v : S44) (hv : FitV v) (cut : Int) (hcut : (Lit.int .i64 cut).wf = true) : ∃ k, laws_FnDocShort.f k a v.f0 v.f1 v.f2 v.f3 v.f4 v.f5 v.f6 v.f7 cut = some true := by
  refine Ev.rounds ?_
  have out : ∀ (f : Nat → Option Bool), (∀ k, f (k + 1) = some true) → Ev f true := fun f h => ⟨1, fun k hk => by obtain ⟨q, rfl⟩ : ∃ q, k = q + 1 := ⟨k - 1, by omega⟩; exact h q⟩
  have out0 : Ev (fun k => laws_FnDocShort.j0 k a cut true v.f0 v.f1 v.f2 v.f3 v.f4 v.f5 v.f6 v.f7) true := out _ (fun k => by rw [laws_FnDocShort.j0, if_pos rfl])
  have out1 : Ev (fun k => laws_FnDocShort.j1 k a cut true v.f0 v.f1 v.f2 v.f3 v.f4 v.f5 v.f6 v.f7) true := out _ (fun k => by rw [laws_FnDocShort.j1, if_pos rfl])
  by_cases h1 : (a.size : Int) > 2147483647
  · exact Ev.congr (fun k => by unfold laws_FnDocShort.f; rw [if_pos h1]) out0
  obtain ⟨z, hz⟩ : ∃ z, laws_zzFits1.f v.f0 v.f1 v.f2 v.f3 v.f4 v.f5 v.f6 v.f7 = some z := by
    unfold laws_zzFits1.f
    (repeat' split) <;> exact ⟨_, rfl⟩
  refine Ev.congr (f := fun k => laws_FnDocShort.j0 k a cut (!z) v.f0 v.f1 v.f2 v.f3 v.f4 v.f5 v.f6 v.f7) (fun k => by unfold laws_FnDocShort.f; rw [if_neg h1, hz]; rfl) ?_
  cases z with
  | false => exact out0
  | true =>
  by_cases h2 : (a.size : Int) > 200
  · exact Ev.step (f := fun k => laws_FnDocShort.j1 k a cut true v.f0 v.f1 v.f2 v.f3 v.f4 v.f5 v.f6 v.f7) (fun k => by show laws_FnDocShort.j0 (k + 1) a cut false v.f0 v.f1 v.f2 v.f3 v.f4 v.f5 v.f6 v.f7 = _; rw [laws_FnDocShort.j0, if_neg (by decide), if_pos h2]) out1
  obtain ⟨p, hp⟩ := plain_some a ha
  have evp : Ev (fun k => spec_DocPlain.f k a) p := Ev.of (fun k => spec_DocPlain.mono _ _) hp
  refine Ev.step (f := fun k => (spec_DocPlain.f k a).bind fun t => (if t = true then ((laws_docFine.f k v.f0 v.f1 v.f2 v.f3 v.f4 v.f5 v.f6 v.f7).bind fun t2 => (laws_FnDocShort.j1 k a cut (!t2) v.f0 v.f1 v.f2 v.f3 v.f4 v.f5 v.f6 v.f7)) else (laws_FnDocShort.j1 k a cut true v.f0 v.f1 v.f2 v.f3 v.f4 v.f5 v.f6 v.f7))) (fun k => by show laws_FnDocShort.j0 (k + 1) a cut false v.f0 v.f1 v.f2 v.f3 v.f4 v.f5 v.f6 v.f7 = _; rw [laws_FnDocShort.j0, if_neg (by decide), if_neg h2]) ?_
  refine Ev.bind evp ?_
  cases p with
  | false => exact Ev.congr (fun k => by rw [if_neg (by decide)]) out1
  | true =>
  refine Ev.congr (f := fun k => (laws_docFine.f k v.f0 v.f1 v.f2 v.f3 v.f4 v.f5 v.f6 v.f7).bind fun t2 => (laws_FnDocShort.j1 k a cut (!t2) v.f0 v.f1 v.f2 v.f3 v.f4 v.f5 v.f6 v.f7)) (fun k => by rw [if_pos rfl]) ?_
  rcases fine_ev v hv with hf | ⟨n, b, hsz, hn, hb, hr, hf⟩
  · exact Ev.bind hf out1
  refine Ev.bind hf ?_
  obtain ⟨hkn, _⟩ := right_top 200 v hr
  obtain ⟨lv, evl, hsh, hll⟩ := shape_value hsz hv (by omega) (by omega) hkn (right_more 200 v hr)
  have hs : a.size ≤ 65536 := by omega
  refine Ev.step (fun k => by show laws_FnDocShort.j1 (k + 1) a cut false v.f0 v.f1 v.f2 v.f3 v.f4 v.f5 v.f6 v.f7 = _; rw [laws_FnDocShort.j1, if_neg (by decide)]) ?_
  refine Ev.bind evl ?_
  by_cases h0 : (lv.length : Int) = 0
  · exact Ev.congr (fun k => by rw [if_pos h0]) (Ev.now _)
  have least : Ev (fun k => laws_FnDocShort.j2 k a cut lv true v.f0 v.f1 v.f2 v.f3 v.f4 v.f5 v.f6 v.f7) true := by
    refine Ev.step (f := fun k => laws_FnDocShort.j3 k a ((lv.length - 1 : Nat) : Int) lv v.f0 v.f1 v.f2 v.f3 v.f4 v.f5 v.f6 v.f7) (fun k => ?_) (last hsh hll hkn hp hs (lv.length - 1) (by omega))
    rw [laws_FnDocShort.j2, if_pos rfl, show wrap64 ((lv.length : Int) - 1) = ((lv.length - 1 : Nat) : Int) by rw [w64 (by omega) (by omega)]; omega]
  by_cases h3 : cut < 0
  · exact Ev.congr (fun k => by rw [if_neg h0, if_pos h3]) least
  by_cases h4 : cut ≥ (lv.length : Int)
  · exact Ev.congr (fun k => by rw [if_neg h0, if_neg h3, decide_eq_true h4]) least
  obtain ⟨c, rfl⟩ := Int.eq_ofNat_of_zero_le (Int.not_lt.1 h3)
  refine Ev.congr (f := fun k => laws_FnDocShort.j2 k a (c : Int) lv false v.f0 v.f1 v.f2 v.f3 v.f4 v.f5 v.f6 v.f7) (fun k => by rw [if_neg h0, if_neg h3, decide_eq_false h4]) ?_
  refine Ev.step (f := fun k => laws_FnDocShort.j3 k a (c : Int) lv v.f0 v.f1 v.f2 v.f3 v.f4 v.f5 v.f6 v.f7) (fun k => ?_) (last hsh hll hkn hp hs c (by omega))
  rw [laws_FnDocShort.j2, if_neg (by decide)]

end Go.Proofs.YtanecebppagakaaGreatDoor.PSx.VT
