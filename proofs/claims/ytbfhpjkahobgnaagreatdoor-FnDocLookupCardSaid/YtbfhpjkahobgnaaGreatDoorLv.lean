/- Plain laws on the told functions of this seat, without memory. Conditions: as each theorem states them. -/
import Derived.Test.YtbfhpjkahobgnaaGreatDoorProg
import Derived.Test.YtbfhpjkahobgnaaGreatDoorHW
import Derived.Below
import Derived.Deep.Draws
import Derived.OwnWalk
import Derived.Tactics
import Derived.WalkKit
import Derived.KernelRfl
import Derived.RowKit3
import Derived.Deep.LoopGhost
import Derived.Deep.QuietTactic
import Derived.BigQuiet
import Derived.WideLaws
import Derived.Deep.DeepCutAuto
import Derived.Deep.CutBlock
import Derived.Laws.Rows
import Derived.Outline
import Derived.StillTailTactics
import Derived.Deep.RegionHeld3
import Derived.Test.YtbfhpjkahobgnaaGreatDoorPLox15
import Derived.Test.YtbfhpjkahobgnaaGreatDoorPL
import Derived.Test.YtbfhpjkahobgnaaGreatDoorOP
namespace Go.Proofs.YtbfhpjkahobgnaaGreatDoor.PLo.VT
open Go.RowKit Go.Proofs.YtbfhpjkahobgnaaGreatDoorW.PrintWords Go.Proofs.YtbfhpjkahobgnaaGreatDoorW.PrintLast Go.Proofs.YtbfhpjkahobgnaaGreatDoorW.PrintMore
set_option linter.unusedVariables false
set_option linter.unusedSimpArgs false
theorem wrap_same (k : IntKind) {a b : Int} (h : a % 2 ^ k.bits = b % 2 ^ k.bits) : k.wrap a = k.wrap b := by
  unfold IntKind.wrap
  rw [h]
theorem or_high (k : IntKind) (i : Nat) (hi : i ≤ k.bits) (x y : Int) (h0 : 0 ≤ x) (h1 : x < 2 ^ i) (hy : y % 2 ^ i = 0) : bits .or k x y = k.wrap (x + y) := by
  have hp : (2 : Int) ^ k.bits = 2 ^ i * 2 ^ (k.bits - i) := by rw [← Int.pow_add]; congr 1; omega
  have hpos : (0 : Int) < 2 ^ k.bits := Int.pow_pos (by decide)
  obtain ⟨a, rfl⟩ := Int.eq_ofNat_of_zero_le h0
  have ha : a < 2 ^ i := by exact_mod_cast h1
  have hab : a < 2 ^ k.bits := Nat.lt_of_lt_of_le ha (Nat.pow_le_pow_right (by decide) hi)
  obtain ⟨b, hb⟩ := Int.eq_ofNat_of_zero_le (Int.emod_nonneg y (Int.ne_of_gt hpos))
  have hbm : (b : Int) % 2 ^ i = 0 := by
    rw [← hb, hp, Int.emod_emod_of_dvd _ (Int.dvd_mul_right _ _)]; exact hy
  have hbn : b % 2 ^ i = 0 := by exact_mod_cast hbm
  have hblt : b < 2 ^ k.bits := by
    have := Int.emod_lt_of_pos y hpos
    rw [hb] at this
    exact_mod_cast this
  have e1 : (BitVec.ofInt k.bits y).toNat = b := by
    rw [BitVec.toNat_ofInt]
    have : (y % ((2 ^ k.bits : Nat) : Int)) = b := by rw [← hb]; simp
    rw [this]
    rfl
  have e2 : (BitVec.ofInt k.bits (a : Int)).toNat = a := by
    rw [BitVec.ofInt_natCast, BitVec.toNat_ofNat]
    exact Nat.mod_eq_of_lt hab
  unfold bits
  simp only [BitVec.toNat_or, e1, e2]
  have hq : b = 2 ^ i * (b / 2 ^ i) := by
    have := Nat.div_add_mod b (2 ^ i)
    omega
  have e3 : a ||| b = a + b := by
    rw [Nat.or_comm, hq, ← Nat.two_pow_add_eq_or_of_lt ha (b / 2 ^ i)]
    omega
  rw [e3]
  apply wrap_same
  rw [Int.natCast_add, ← hb, Int.add_emod, Int.emod_emod_of_dvd _ (Int.dvd_refl _), ← Int.add_emod]
theorem wrap_i32' (n : Int) : IntKind.i32.wrap n = wrap32 n := by rw [IntKind.wrap_i32]; unfold wrap32; rfl
/-- Eight bytes, the lowest first. -/
def le8 (n : Int) : List Int := [n % 256, n / 256 % 256, n / 65536 % 256, n / 16777216 % 256, n / 4294967296 % 256, n / 1099511627776 % 256, n / 281474976710656 % 256, n / 72057594037927936 % 256]
theorem int64_ev (l : List Int) (n : Int) (hl : l.length + 8 < 140737488355328) : Ev (fun k => spec_DocInt64.f k l n) (l ++ le8 n) := by
  refine ⟨10, fun k hk => ?_⟩
  obtain ⟨j, rfl⟩ := Nat.exists_eq_add_of_le hk
  have step : ∀ (k : Nat) (x : List Int) (i : Nat), x.length < 140737488355328 → i < 64 → spec_DocInt64.l0 (k + 1) x n (i : Int) = spec_DocInt64.l0 k (x ++ [shr .u64 n (i : Int) % 256]) n ((i + 8 : Nat) : Int) := by
    intro k x i hx hi
    rw [spec_DocInt64.l0, if_pos (by omega), if_pos (by omega), if_pos hx, show wrap64 ((i : Int) + 8) = ((i + 8 : Nat) : Int) by unfold wrap64; omega]
  unfold spec_DocInt64.f
  rw [show 10 + j = (((((((((j + 1) + 1) + 1) + 1) + 1) + 1) + 1) + 1) + 1) + 1 by omega]
  show spec_DocInt64.l0 (j + 1 + 1 + 1 + 1 + 1 + 1 + 1 + 1 + 1 + 1) l n ((0 : Nat) : Int) = some (l ++ le8 n)
  rw [step _ l 0 (by omega) (by decide), step _ _ 8 (by simp; omega) (by decide), step _ _ 16 (by simp; omega) (by decide), step _ _ 24 (by simp; omega) (by decide), step _ _ 32 (by simp; omega) (by decide), step _ _ 40 (by simp; omega) (by decide), step _ _ 48 (by simp; omega) (by decide), step _ _ 56 (by simp; omega) (by decide)]
  rw [spec_DocInt64.l0, if_neg (by decide)]
  simp only [List.append_assoc, List.cons_append, List.nil_append]
  congr 1
  congr 1
  simp [le8, shr, IntKind.bits]
theorem le8_wf (n : Int) : ∀ z ∈ le8 n, (Lit.int .u8 z).wf = true := by
  intro z hz
  have : 0 ≤ z ∧ z ≤ 255 := by
    simp only [le8, List.mem_cons, List.not_mem_nil, or_false] at hz
    rcases hz with rfl | rfl | rfl | rfl | rfl | rfl | rfl | rfl <;> omega
  simp only [Lit.wf, Bool.and_eq_true, decide_eq_true_eq]
  exact ⟨by simpa [IntKind.min, IntKind.signed] using this.1, by simpa [IntKind.max, IntKind.signed, IntKind.bits] using this.2⟩

/-- The most that a length can be. -/
abbrev M : Nat := 140737488351232
mutual
/-- A value has n values in it and b bytes of texts, names and data. -/
inductive SzV : S46 → Nat → Nat → Prop
  | mk (v : S46) (n b : Nat) : SzL v.f7 n b → SzV v (n + 1) (v.f1.size + v.f2.size + v.f6.length + b)
inductive SzL : List S73 → Nat → Nat → Prop
  | nil : SzL [] 0 0
  | cons (e : S73) (r : List S73) (n b n' b' : Nat) : SzV e.f1 n b → SzL r n' b' → SzL (e :: r) (n + n') (e.f0.size + b + b')
end
/-- What is read of memory: numbers of their kinds, lengths that a machine has. -/
inductive FitV : S46 → Prop
  | mk (v : S46) (h0 : (Lit.int .i64 v.f0).wf = true) (h1 : v.f1.size ≤ M) (h2 : v.f2.size ≤ M) (h3 : (Lit.int .i64 v.f3).wf = true) (h4 : (Lit.int .u64 v.f4).wf = true) (h5 : (Lit.int .u64 v.f5).wf = true) (h6 : v.f6.length ≤ M) (h6' : ∀ x, x ∈ v.f6 → (Lit.int .u8 x).wf = true) (h7 : v.f7.length ≤ M) (hn : ∀ e, e ∈ v.f7 → e.f0.size ≤ M) (hk : ∀ e, e ∈ v.f7 → FitV e.f1) : FitV v
theorem FitV.text {v : S46} (h : FitV v) : v.f1.size ≤ M := by cases h; assumption
theorem FitV.more {v : S46} (h : FitV v) : v.f2.size ≤ M := by cases h; assumption
theorem FitV.data {v : S46} (h : FitV v) : v.f6.length ≤ M := by cases h; assumption
theorem FitV.kids {v : S46} (h : FitV v) : v.f7.length ≤ M := by cases h; assumption
theorem FitV.name {v : S46} (h : FitV v) : ∀ e, e ∈ v.f7 → e.f0.size ≤ M := by cases h; assumption
theorem FitV.kid {v : S46} (h : FitV v) : ∀ e, e ∈ v.f7 → FitV e.f1 := by cases h; assumption
theorem FitV.n {v : S46} (h : FitV v) : (Lit.int .i64 v.f3).wf = true := by cases h; assumption
theorem FitV.bits {v : S46} (h : FitV v) : (Lit.int .u64 v.f4).wf = true := by cases h; assumption
theorem FitV.high {v : S46} (h : FitV v) : (Lit.int .u64 v.f5).wf = true := by cases h; assumption
theorem rd_at (pre r : List S73) (e : S73) : rd_T73 (pre ++ e :: r) (pre.length : Int) = e := by
  unfold rd_T73
  rw [Int.toNat_natCast]
  simp
theorem w64 {x : Int} (h0 : -9223372036854775808 ≤ x) (h1 : x ≤ 9223372036854775807) : wrap64 x = x := by unfold wrap64; omega
/-- The count stops behind its limit; where it did not, it is the number of values. -/
theorem count (L : Nat) : L ≤ 1000 → ∀ v : S46, FitV v → ∃ c : Nat, 1 ≤ c ∧ c ≤ L + 1 ∧ Ev (fun k => laws_docCount.f k v.f0 v.f1 v.f2 v.f3 v.f4 v.f5 v.f6 v.f7 (L : Int)) (c : Int) ∧ (c ≤ L → ∃ b, SzV v c b) := by
  induction L using Nat.strongRecOn with
  | _ L ih =>
  intro hL v hv
  have loop : ∀ (r pre : List S73) (n : Nat), v.f7 = pre ++ r → 1 ≤ n → n ≤ L + 1 → ∃ c : Nat, n ≤ c ∧ c ≤ L + 1 ∧ Ev (fun k => laws_docCount.l0 k (L : Int) (n : Int) (pre.length : Int) v.f0 v.f1 v.f2 v.f3 v.f4 v.f5 v.f6 v.f7) (c : Int) ∧ (c ≤ L → ∃ b, SzL r (c - n) b) := by
    intro r
    induction r with
    | nil =>
      intro pre n he h1 hn
      refine ⟨n, Nat.le_refl _, hn, ⟨2, fun k hk => ?_⟩, fun _ => ⟨0, by rw [Nat.sub_self]; exact SzL.nil⟩⟩
      obtain ⟨k, rfl⟩ : ∃ q, k = q + 1 + 1 := ⟨k - 2, by omega⟩
      have : ¬ ((pre.length : Int) < (v.f7.length : Int)) := by rw [he]; simp
      show laws_docCount.l0 (k + 1 + 1) _ _ _ _ _ _ _ _ _ _ _ = _
      rw [laws_docCount.l0, if_neg this, laws_docCount.j1, if_neg (by decide)]
    | cons e r ihr =>
      intro pre n he h1 hn
      have hlen : v.f7.length = pre.length + (r.length + 1) := by rw [he]; simp
      have hin : (pre.length : Int) < (v.f7.length : Int) := by omega
      have hM := hv.kids
      have hM' : v.f7.length ≤ 140737488351232 := hM
      by_cases hnl : n ≤ L
      · have he' : rd_T73 v.f7 (pre.length : Int) = e := by rw [he]; exact rd_at pre r e
        obtain ⟨c1, a1, a2, ev1, sz1⟩ := ih (L - n) (by omega) (by omega) e.f1 (hv.kid e (by rw [he]; simp))
        obtain ⟨c, b1, b2, ev2, sz2⟩ := ihr (pre ++ [e]) (n + c1) (by rw [he]; simp) (by omega) (by omega)
        refine ⟨c, by omega, b2, ?_, fun hc => ?_⟩
        · refine Ev.step (f := fun k => laws_docCount.j1 k (L : Int) (n : Int) (pre.length : Int) true v.f0 v.f1 v.f2 v.f3 v.f4 v.f5 v.f6 v.f7) (fun k => ?_) ?_
          · rw [laws_docCount.l0, if_pos hin, decide_eq_true (by omega)]
          · refine Ev.step (f := fun k => (laws_docCount.f k e.f1.f0 e.f1.f1 e.f1.f2 e.f1.f3 e.f1.f4 e.f1.f5 e.f1.f6 e.f1.f7 ((L - n : Nat) : Int)).bind fun t => laws_docCount.l0 k (L : Int) (wrap64 ((n : Int) + t)) (wrap64 ((pre.length : Int) + 1)) v.f0 v.f1 v.f2 v.f3 v.f4 v.f5 v.f6 v.f7) (fun k => ?_) ?_
            · rw [laws_docCount.j1, if_pos rfl, if_pos (by omega), if_pos hin, he', show wrap64 ((L : Int) - (n : Int)) = ((L - n : Nat) : Int) by rw [w64 (by omega) (by omega)]; omega]
            · refine Ev.bind ev1 ?_
              have e1 : wrap64 ((n : Int) + (c1 : Int)) = ((n + c1 : Nat) : Int) := by rw [w64 (by omega) (by omega)]; omega
              have e2 : wrap64 ((pre.length : Int) + 1) = (((pre ++ [e]).length : Nat) : Int) := by rw [w64 (by omega) (by omega)]; simp
              rw [e1, e2]
              exact ev2
        · obtain ⟨b', hb'⟩ := sz2 hc
          obtain ⟨b, hb⟩ := sz1 (by omega)
          refine ⟨e.f0.size + b + b', ?_⟩
          rw [show c - n = c1 + (c - (n + c1)) by omega]
          exact SzL.cons e r c1 b _ b' hb hb'
      · refine ⟨n, Nat.le_refl _, hn, ⟨2, fun k hk => ?_⟩, fun hc => absurd hc hnl⟩
        obtain ⟨k, rfl⟩ : ∃ q, k = q + 1 + 1 := ⟨k - 2, by omega⟩
        show laws_docCount.l0 (k + 1 + 1) _ _ _ _ _ _ _ _ _ _ _ = _
        rw [laws_docCount.l0, if_pos hin, decide_eq_false (by omega), laws_docCount.j1, if_neg (by decide)]
  obtain ⟨c, a1, a2, ev, sz⟩ := loop v.f7 [] 1 rfl (Nat.le_refl _) (by omega)
  refine ⟨c, a1, a2, Ev.step (fun k => by rw [laws_docCount.f]; rfl) ev, fun hc => ?_⟩
  obtain ⟨b, hb⟩ := sz hc
  refine ⟨v.f1.size + v.f2.size + v.f6.length + b, ?_⟩
  have := SzV.mk v (c - 1) b hb
  rwa [Nat.sub_add_cancel a1] at this
theorem SzV.bound {v : S46} {n b : Nat} (h : SzV v n b) : FitV v → b + 140737488351232 ≤ n * 562949953404928 :=
  SzV.rec (motive_1 := fun v n b _ => FitV v → b + 140737488351232 ≤ n * 562949953404928) (motive_2 := fun r n b _ => (∀ e, e ∈ r → e.f0.size ≤ M) → (∀ e, e ∈ r → FitV e.f1) → b ≤ n * 562949953404928)
    (fun v n b hs ih hv => by
      have h1 : v.f1.size ≤ 140737488351232 := hv.text
      have h2 : v.f2.size ≤ 140737488351232 := hv.more
      have h3 : v.f6.length ≤ 140737488351232 := hv.data
      have h4 := ih hv.name hv.kid
      omega)
    (fun _ _ => by omega)
    (fun e r n b n' b' hs hr ih ihr hn hk => by
      have h1 : e.f0.size ≤ 140737488351232 := hn e (by simp)
      have h2 := ih (hk e (by simp))
      have h3 := ihr (fun x hx => hn x (by simp [hx])) (fun x hx => hk x (by simp [hx]))
      omega) h
theorem SzL.pos {v : S46} {n b : Nat} (h : SzV v n b) : 1 ≤ n := by cases h; omega
theorem bytes {v : S46} {n b : Nat} (h : SzV v n b) : FitV v → n ≤ 1000 → Ev (fun k => laws_docBytes.f k v.f0 v.f1 v.f2 v.f3 v.f4 v.f5 v.f6 v.f7) (b : Int) :=
  SzV.rec (motive_1 := fun v n b _ => FitV v → n ≤ 1000 → Ev (fun k => laws_docBytes.f k v.f0 v.f1 v.f2 v.f3 v.f4 v.f5 v.f6 v.f7) (b : Int))
    (motive_2 := fun r n b _ => n ≤ 1000 → ∀ (v : S46) (pre : List S73) (acc : Nat), FitV v → v.f7 = pre ++ r → acc + b ≤ 4611686018427387904 → Ev (fun k => laws_docBytes.l0 k (acc : Int) (pre.length : Int) v.f0 v.f1 v.f2 v.f3 v.f4 v.f5 v.f6 v.f7) ((acc + b : Nat) : Int))
    (fun v n b hs ih hv hn => by
      have h1 : v.f1.size ≤ 140737488351232 := hv.text
      have h2 : v.f2.size ≤ 140737488351232 := hv.more
      have h3 : v.f6.length ≤ 140737488351232 := hv.data
      have hb := (SzV.mk v n b hs).bound hv
      refine Ev.step (f := fun k => laws_docBytes.l0 k ((v.f1.size + v.f2.size + v.f6.length : Nat) : Int) (([] : List S73).length : Int) v.f0 v.f1 v.f2 v.f3 v.f4 v.f5 v.f6 v.f7) (fun k => ?_) (ih (by omega) v [] _ hv rfl (by omega))
      rw [laws_docBytes.f, w64 (x := (v.f1.size : Int) + (v.f2.size : Int)) (by omega) (by omega), w64 (by omega) (by omega), Int.natCast_add, Int.natCast_add]
      rfl)
    (fun hn v pre acc hv he hb => by
      refine ⟨1, fun k hk => ?_⟩
      obtain ⟨k, rfl⟩ : ∃ q, k = q + 1 := ⟨k - 1, by omega⟩
      show laws_docBytes.l0 (k + 1) _ _ _ _ _ _ _ _ _ _ = _
      rw [laws_docBytes.l0, if_neg (by rw [he]; simp)]
      rfl)
    (fun e r n b n' b' hs hr ih ihr hn v pre acc hv he hb => by
      have hlen : v.f7.length = pre.length + (r.length + 1) := by rw [he]; simp
      have hM : v.f7.length ≤ 140737488351232 := hv.kids
      have he' : rd_T73 v.f7 (pre.length : Int) = e := by rw [he]; exact rd_at pre r e
      have ev1 := ih (hv.kid e (by rw [he]; simp)) (by omega)
      have ev2 := ihr (by omega) v (pre ++ [e]) (acc + e.f0.size + b) hv (by rw [he]; simp) (by omega)
      refine Ev.step (f := fun k => (laws_docBytes.f k e.f1.f0 e.f1.f1 e.f1.f2 e.f1.f3 e.f1.f4 e.f1.f5 e.f1.f6 e.f1.f7).bind fun t => laws_docBytes.l0 k (wrap64 ((wrap64 ((acc : Int) + (e.f0.size : Int))) + t)) (wrap64 ((pre.length : Int) + 1)) v.f0 v.f1 v.f2 v.f3 v.f4 v.f5 v.f6 v.f7) (fun k => ?_) ?_
      · rw [laws_docBytes.l0, if_pos (by omega), if_pos (by omega), he']
      · refine Ev.bind ev1 ?_
        have e1 : wrap64 ((wrap64 ((acc : Int) + (e.f0.size : Int))) + (b : Int)) = ((acc + e.f0.size + b : Nat) : Int) := by rw [w64 (x := (acc : Int) + _) (by omega) (by omega), w64 (by omega) (by omega)]; omega
        have e2 : wrap64 ((pre.length : Int) + 1) = (((pre ++ [e]).length : Nat) : Int) := by rw [w64 (by omega) (by omega)]; simp
        rw [e1, e2, show acc + (e.f0.size + b + b') = acc + e.f0.size + b + b' by omega]
        exact ev2) h
theorem plain_some (s : ByteArray) (hs : s.size ≤ M) : ∃ p, spec_DocPlain.f (s.size + 1) s = some p := by
  have hs' : s.size ≤ 140737488351232 := hs
  have key : ∀ (k i : Nat), s.size + 1 ≤ k + i → i ≤ s.size → ∃ p, spec_DocPlain.l0 k s (i : Int) = some p := by
    intro k
    induction k with
    | zero => intro i h1 h2; omega
    | succ k ih =>
      intro i h1 h2
      unfold spec_DocPlain.l0
      by_cases hi : (i : Int) < (s.size : Int)
      · rw [if_pos hi, if_pos (by omega)]
        by_cases hz : bt s i = 0
        · rw [if_pos hz]; exact ⟨_, rfl⟩
        · rw [if_neg hz, show wrap64 ((i : Int) + 1) = ((i + 1 : Nat) : Int) by rw [w64 (by omega) (by omega)]; omega]
          exact ih (i + 1) (by omega) (by omega)
      · rw [if_neg hi]; exact ⟨_, rfl⟩
  exact key (s.size + 1) 0 (by omega) (by omega)
theorem str_one (x : Int) : (strOfNums [x]).size = 1 := by
  have := strOfNums_size [x]
  simpa using this
theorem digits_some : ∀ (j i : Nat), i < 10 ^ (j + 1) → j ≤ 64 → i < 140737488355328 → ∃ dg, spec_DocDigits.f (j + 1) (i : Int) = some dg ∧ dg.size ≤ j + 1
  | 0, i, h, hj, hi => by
    unfold spec_DocDigits.f
    rw [if_pos (by omega)]
    exact ⟨_, rfl, by rw [str_one]; omega⟩
  | j + 1, i, h, hj, hi => by
    unfold spec_DocDigits.f
    by_cases ht : (i : Int) < 10
    · rw [if_pos ht]
      exact ⟨_, rfl, by rw [str_one]; omega⟩
    · rw [if_neg ht]
      obtain ⟨dg, h1, h2⟩ := digits_some j (i / 10) (by rw [Nat.pow_succ] at h; omega) (by omega) (by omega)
      have e1 : wrap64 (Int.tdiv (i : Int) 10) = ((i / 10 : Nat) : Int) := by
        rw [show Int.tdiv (i : Int) 10 = ((i / 10 : Nat) : Int) from rfl, w64 (by omega) (by omega)]
      rw [e1, h1]
      refine ⟨dg ++ strOfNums [(wrap64 (48 + (Int.tmod (i : Int) 10))) % 256], ?_, ?_⟩
      · show (if dg.size + (strOfNums _).size ≤ 9223372036854775807 then some (dg ++ strOfNums _) else none) = _
        rw [if_pos (by rw [str_one]; omega)]
      · rw [ByteArray.size_append, str_one]; omega
theorem name_some (arr : Bool) (s : ByteArray) (hs : s.size ≤ M) (i : Nat) (hi : i < 140737488355328) : ∃ o, nameOk arr s (i : Int) = some o := by
  unfold nameOk
  obtain ⟨p, hp⟩ := plain_some s hs
  rw [hp]
  show ∃ o, (if p = false then some false else if arr = true then _ else some true) = some o
  by_cases h1 : p = false
  · rw [if_pos h1]; exact ⟨_, rfl⟩
  · rw [if_neg h1]
    by_cases h2 : arr = true
    · rw [if_pos h2]
      obtain ⟨dg, hd, _⟩ := digits_some 63 i (by omega) (by omega) hi
      rw [hd]; exact ⟨_, rfl⟩
    · rw [if_neg h2]; exact ⟨_, rfl⟩
theorem list_some (rec : S46 → Option Bool) (arr : Bool) : ∀ (r : List S73) (i : Nat), (∀ e, e ∈ r → e.f0.size ≤ M) → (∀ e, e ∈ r → ∃ q, rec e.f1 = some q) → i + r.length < 140737488355328 → ∃ q, docRL rec arr r (i : Int) = some q
  | [], i, hn, hk, hi => ⟨true, rfl⟩
  | e :: r, i, hn, hk, hi => by
    have hl : i + (r.length + 1) < 140737488355328 := hi
    unfold docRL
    obtain ⟨o, ho⟩ := name_some arr e.f0 (hn e (by simp)) i (by omega)
    obtain ⟨q, hq⟩ := hk e (by simp)
    obtain ⟨z, hz⟩ := list_some rec arr r (i + 1) (fun x hx => hn x (by simp [hx])) (fun x hx => hk x (by simp [hx])) (by omega)
    rw [ho]
    show ∃ q, (if o = false then some false else (rec e.f1).bind fun q => if q = false then some false else docRL rec arr r ((i : Int) + 1)) = some q
    rw [hq]
    by_cases h1 : o = false
    · rw [if_pos h1]; exact ⟨_, rfl⟩
    · rw [if_neg h1]
      show ∃ q', (if q = false then some false else docRL rec arr r ((i : Int) + 1)) = some q'
      by_cases h2 : q = false
      · rw [if_pos h2]; exact ⟨_, rfl⟩
      · rw [if_neg h2]
        exact ⟨z, hz⟩
theorem known_ex (k : Int) : ∃ b, spec_DocKnown.f k = some b := by
  unfold spec_DocKnown.f
  (repeat' split) <;> exact ⟨_, rfl⟩
theorem right_some : ∀ (d : Nat) (v : S46), FitV v → ∃ q, docR d v.f0 v.f1 v.f2 v.f3 v.f4 v.f5 v.f6 v.f7 = some q
  | 0, v, hv => ⟨false, rfl⟩
  | d + 1, v, hv => by
    obtain ⟨kn, hkn⟩ := known_ex v.f0
    obtain ⟨p1, hp1⟩ := plain_some v.f1 hv.text
    obtain ⟨p2, hp2⟩ := plain_some v.f2 hv.more
    have hM : v.f7.length ≤ 140737488351232 := hv.kids
    obtain ⟨q, hq⟩ := list_some (fun v => docR d v.f0 v.f1 v.f2 v.f3 v.f4 v.f5 v.f6 v.f7) (v.f0 == 4) v.f7 0 hv.name (fun e he => right_some d e.f1 (hv.kid e he)) (by omega)
    unfold docR
    rw [hkn, hp1]
    simp only [Option.bind_some, hp2]
    have hq' : docRL (fun v => docR d v.f0 v.f1 v.f2 v.f3 v.f4 v.f5 v.f6 v.f7) (v.f0 == 4) v.f7 0 = some q := hq
    rw [hq']
    (repeat' split) <;> exact ⟨_, rfl⟩
/-- What a right value is at least: its kind is known, an integer of 32 bits is one. -/
theorem right_top (d : Nat) (v : S46) (h : docR d v.f0 v.f1 v.f2 v.f3 v.f4 v.f5 v.f6 v.f7 = some true) : spec_DocKnown.f v.f0 = some true ∧ (v.f0 = 16 → -2147483648 ≤ v.f3 ∧ v.f3 < 2147483648) := by
  cases d with
  | zero => cases h
  | succ d =>
    unfold docR at h
    obtain ⟨kn, hkn⟩ := known_ex v.f0
    rw [hkn] at h ⊢
    simp only [Option.bind_some] at h
    cases kn with
    | false => simp at h
    | true =>
      refine ⟨rfl, fun h16 => ?_⟩
      rw [if_neg (by decide)] at h
      split at h
      next => cases h
      next =>
        rw [h16] at h
        simpa using h
def le4 (n : Int) : List Int := [n % 256, n / 256 % 256, n / 65536 % 256, n / 16777216 % 256]
theorem int32_some (l : List Int) (n : Int) (hl : l.length ≤ 1000000) : spec_DocInt32.f l n = some (l ++ le4 n) := by
  show (if l.length + 4 < 140737488355328 then some (l ++ le4 n) else none) = _
  rw [if_pos (by omega)]
theorem le4_length (n : Int) : (le4 n).length = 4 := rfl
theorem le8_length (n : Int) : (le8 n).length = 8 := rfl
theorem text_some (l : List Int) (s : ByteArray) (hl : l.length ≤ 1000000) (hs : s.size ≤ 1000000) : ∃ r, spec_docText.f l s = some r ∧ r.length = l.length + s.size + 5 := by
  unfold spec_docText.f
  rw [int32_some l _ hl]
  have h1 : (l ++ le4 (wrap64 ((s.size : Int) + 1))).length + s.size < 140737488355328 := by rw [List.length_append, le4_length]; omega
  have h2 : (l ++ le4 (wrap64 ((s.size : Int) + 1)) ++ bytesOf s).length < 140737488355328 := by rw [List.length_append, bytesOf_length]; omega
  simp only [Option.bind_some, h1, h2, if_true]
  refine ⟨_, rfl, ?_⟩
  simp only [List.length_append, le4_length, bytesOf_length, List.length_cons, List.length_nil]
  omega
theorem head_some (k : Int) (s : ByteArray) (hs : s.size ≤ 1000000) : ∃ r, spec_DocHead.f k s = some r ∧ r.length = s.size + 2 := by
  unfold spec_DocHead.f
  have h1 : ([k % 256] : List Int).length + s.size < 140737488355328 := by simp only [List.length_cons, List.length_nil]; omega
  have h2 : ([k % 256] ++ bytesOf s : List Int).length < 140737488355328 := by rw [List.length_append, bytesOf_length]; omega
  simp only [Option.bind_some, h1, h2, if_true]
  refine ⟨_, rfl, ?_⟩
  simp only [List.length_append, bytesOf_length, List.length_cons, List.length_nil]
  omega
theorem doc_some (l : List Int) (hl : l.length ≤ 1000000) : ∃ r, ((spec_DocInt32.f ([] : List Int) (wrap64 ((l.length : Int) + 5))).bind fun t => (if t.length + l.length < 140737488355328 then ((some (t ++ l : List Int)).bind fun y => (if y.length < 140737488355328 then (some (y ++ [0])) else (none))) else (none))) = some r ∧ r.length = l.length + 5 := by
  rw [int32_some _ _ (by simp)]
  have h1 : (([] : List Int) ++ le4 (wrap64 ((l.length : Int) + 5))).length + l.length < 140737488355328 := by rw [List.length_append, le4_length]; simp only [List.length_nil]; omega
  have h2 : (([] : List Int) ++ le4 (wrap64 ((l.length : Int) + 5)) ++ l).length < 140737488355328 := by rw [List.length_append]; omega
  simp only [Option.bind_some, h1, h2, if_true]
  refine ⟨_, rfl, ?_⟩
  simp only [List.length_append, le4_length, List.length_cons, List.length_nil]
  omega
theorem int64_from (l : List Int) (n : Int) (hl : l.length ≤ 1000000) : ∃ K, ∀ k, K ≤ k → spec_DocInt64.f k l n = some (l ++ le8 n) := int64_ev l n (by omega)
/-- The bytes of a value, whatever is asked of its kind. -/
theorem dv_cases (v : S46) (hs1 : v.f1.size ≤ 65536) (hs2 : v.f2.size ≤ 65536) (hs6 : v.f6.length ≤ 65536) (hsum : v.f1.size + v.f2.size + v.f6.length ≤ 65536) (lk : List Int) (hk : Ev (fun k => spec_DocBytes.f k v.f7) lk) (hkl : lk.length ≤ 200000) :
    ∃ l, Ev (fun k => spec_DocValue.f k v.f0 v.f1 v.f2 v.f3 v.f4 v.f5 v.f6 v.f7) l ∧ l.length ≤ v.f1.size + v.f2.size + v.f6.length + lk.length + 16 := by
  obtain ⟨K0, hK0'⟩ := hk
  have hK0 : ∀ k, K0 ≤ k → spec_DocBytes.f k v.f7 = some lk := hK0'
  obtain ⟨K1, hK1⟩ := int64_from [] v.f4 (by simp)
  obtain ⟨K2, hK2⟩ := int64_from [] (IntKind.u64.wrap v.f3) (by simp)
  obtain ⟨K3, hK3⟩ := int64_from ([] ++ le8 v.f4) v.f5 (by rw [List.length_append, le8_length]; simp)
  obtain ⟨tx, htx, htl0⟩ := text_some [] v.f1 (by simp) (by omega)
  have htl : tx.length = v.f1.size + 5 := by rw [htl0, List.length_nil]; omega
  clear htl0
  have i32 := fun n => int32_some [] n (by simp)
  have go : ∀ l, l.length ≤ v.f1.size + v.f2.size + v.f6.length + lk.length + 16 → (∀ k, K0 ≤ k → K1 ≤ k → K2 ≤ k → K3 ≤ k → spec_DocValue.f (k + 5) v.f0 v.f1 v.f2 v.f3 v.f4 v.f5 v.f6 v.f7 = some l) → ∃ l, Ev (fun k => spec_DocValue.f k v.f0 v.f1 v.f2 v.f3 v.f4 v.f5 v.f6 v.f7) l ∧ l.length ≤ v.f1.size + v.f2.size + v.f6.length + lk.length + 16 := by
    intro l hl h
    refine ⟨l, ⟨K0 + K1 + K2 + K3 + 5, fun k hk => ?_⟩, hl⟩
    obtain ⟨q, rfl⟩ : ∃ q, k = q + 5 := ⟨k - 5, by omega⟩
    exact h q (by omega) (by omega) (by omega) (by omega)
  by_cases c1 : v.f0 = 1
  · refine go ([] ++ le8 v.f4) (by rw [List.length_append, le8_length, List.length_nil]; omega) (fun k h0 h1 h2 h3 => ?_)
    rw [spec_DocValue.f, if_pos c1, c1, spec_DocValue.j0, if_pos (by decide), hK1 _ (by omega)]; rfl
  by_cases c17 : v.f0 = 17
  · refine go ([] ++ le8 v.f4) (by rw [List.length_append, le8_length, List.length_nil]; omega) (fun k h0 h1 h2 h3 => ?_)
    rw [spec_DocValue.f, if_neg c1, c17, spec_DocValue.j0, if_pos (by decide), hK1 _ (by omega)]; rfl
  by_cases c2 : v.f0 = 2
  · refine go (tx) (by rw [htl]; omega) (fun k h0 h1 h2 h3 => ?_)
    rw [spec_DocValue.f, if_neg c1, c2, spec_DocValue.j0, if_neg (by decide), if_pos (by decide), spec_DocValue.j1, if_pos (by decide), htx]; rfl
  by_cases c13 : v.f0 = 13
  · refine go (tx) (by rw [htl]; omega) (fun k h0 h1 h2 h3 => ?_)
    rw [spec_DocValue.f, if_neg c1, c13, spec_DocValue.j0, if_neg (by decide), if_neg (by decide), if_pos (by decide), spec_DocValue.j1, if_pos (by decide), htx]; rfl
  by_cases c14 : v.f0 = 14
  · refine go (tx) (by rw [htl]; omega) (fun k h0 h1 h2 h3 => ?_)
    rw [spec_DocValue.f, if_neg c1, c14, spec_DocValue.j0, if_neg (by decide), if_neg (by decide), if_neg (by decide), spec_DocValue.j1, if_pos (by decide), htx]; rfl
  by_cases c3 : v.f0 = 3
  · refine go (lk) (by omega) (fun k h0 h1 h2 h3 => ?_)
    rw [spec_DocValue.f, if_neg c1, c3, spec_DocValue.j0, if_neg (by decide), if_neg (by decide), if_neg (by decide), spec_DocValue.j1, if_neg (by decide), if_pos (by decide), spec_DocValue.j2, if_pos (by decide), hK0 _ (by omega)]; rfl
  by_cases c4 : v.f0 = 4
  · refine go (lk) (by omega) (fun k h0 h1 h2 h3 => ?_)
    rw [spec_DocValue.f, if_neg c1, c4, spec_DocValue.j0, if_neg (by decide), if_neg (by decide), if_neg (by decide), spec_DocValue.j1, if_neg (by decide), if_neg (by decide), spec_DocValue.j2, if_pos (by decide), hK0 _ (by omega)]; rfl
  by_cases c5 : v.f0 = 5
  · by_cases c2n : v.f3 = 2
    · refine go (([] ++ le4 (wrap64 ((v.f6.length : Int) + 4))) ++ [2] ++ le4 (v.f6.length : Int) ++ v.f6) (by simp only [List.length_append, le8_length, le4_length, List.length_nil, List.length_cons, bytesOf_length]; omega) (fun k h0 h1 h2 h3 => ?_)
      rw [spec_DocValue.f, if_neg c1, c5, spec_DocValue.j0, if_neg (by decide), if_neg (by decide), if_neg (by decide), spec_DocValue.j1, if_neg (by decide), if_neg (by decide), spec_DocValue.j2, if_neg (by decide), if_pos (by decide), if_pos c2n, i32]
      have j1 : (([] : List Int) ++ le4 (wrap64 ((v.f6.length : Int) + 4))).length < 140737488355328 := (by simp only [List.length_append, le8_length, le4_length, List.length_nil, List.length_cons, bytesOf_length]; omega)
      have j2 : (([] : List Int) ++ le4 (wrap64 ((v.f6.length : Int) + 4)) ++ [2]).length ≤ 1000000 := (by simp only [List.length_append, le8_length, le4_length, List.length_nil, List.length_cons, bytesOf_length]; omega)
      have j3 : (([] : List Int) ++ le4 (wrap64 ((v.f6.length : Int) + 4)) ++ [2] ++ le4 (v.f6.length : Int)).length + v.f6.length < 140737488355328 := (by simp only [List.length_append, le8_length, le4_length, List.length_nil, List.length_cons, bytesOf_length]; omega)
      simp only [Option.bind_some, j1, if_true, int32_some _ _ j2, j3]
    · refine go (([] ++ le4 (v.f6.length : Int)) ++ [v.f3 % 256] ++ v.f6) (by simp only [List.length_append, le8_length, le4_length, List.length_nil, List.length_cons, bytesOf_length]; omega) (fun k h0 h1 h2 h3 => ?_)
      rw [spec_DocValue.f, if_neg c1, c5, spec_DocValue.j0, if_neg (by decide), if_neg (by decide), if_neg (by decide), spec_DocValue.j1, if_neg (by decide), if_neg (by decide), spec_DocValue.j2, if_neg (by decide), if_pos (by decide), if_neg c2n, i32]
      have j1 : (([] : List Int) ++ le4 (v.f6.length : Int)).length < 140737488355328 := (by simp only [List.length_append, le8_length, le4_length, List.length_nil, List.length_cons, bytesOf_length]; omega)
      have j2 : (([] : List Int) ++ le4 (v.f6.length : Int) ++ [v.f3 % 256]).length + v.f6.length < 140737488355328 := (by simp only [List.length_append, le8_length, le4_length, List.length_nil, List.length_cons, bytesOf_length]; omega)
      simp only [Option.bind_some, j1, if_true, j2]
  by_cases c7 : v.f0 = 7
  · refine go ([] ++ v.f6) (by simp only [List.length_append, le8_length, le4_length, List.length_nil, List.length_cons, bytesOf_length]; omega) (fun k h0 h1 h2 h3 => ?_)
    rw [spec_DocValue.f, if_neg c1, c7, spec_DocValue.j0, if_neg (by decide), if_neg (by decide), if_neg (by decide), spec_DocValue.j1, if_neg (by decide), if_neg (by decide), spec_DocValue.j2, if_neg (by decide), if_neg (by decide), if_pos (by decide), if_pos (by simp only [List.length_append, le8_length, le4_length, List.length_nil, List.length_cons, bytesOf_length]; omega)]
  by_cases c8 : v.f0 = 8
  · refine go ([] ++ [v.f3 % 256]) (by simp only [List.length_append, le8_length, le4_length, List.length_nil, List.length_cons, bytesOf_length]; omega) (fun k h0 h1 h2 h3 => ?_)
    rw [spec_DocValue.f, if_neg c1, c8, spec_DocValue.j0, if_neg (by decide), if_neg (by decide), if_neg (by decide), spec_DocValue.j1, if_neg (by decide), if_neg (by decide), spec_DocValue.j2, if_neg (by decide), if_neg (by decide), if_neg (by decide), if_pos (by decide), if_pos (by decide)]
  by_cases c9 : v.f0 = 9
  · refine go ([] ++ le8 (IntKind.u64.wrap v.f3)) (by simp only [List.length_append, le8_length, le4_length, List.length_nil, List.length_cons, bytesOf_length]; omega) (fun k h0 h1 h2 h3 => ?_)
    rw [spec_DocValue.f, if_neg c1, c9, spec_DocValue.j0, if_neg (by decide), if_neg (by decide), if_neg (by decide), spec_DocValue.j1, if_neg (by decide), if_neg (by decide), spec_DocValue.j2, if_neg (by decide), if_neg (by decide), if_neg (by decide), if_neg (by decide), if_pos (by decide), spec_DocValue.j3, if_pos (by decide), hK2 _ (by omega)]; rfl
  by_cases c18 : v.f0 = 18
  · refine go ([] ++ le8 (IntKind.u64.wrap v.f3)) (by simp only [List.length_append, le8_length, le4_length, List.length_nil, List.length_cons, bytesOf_length]; omega) (fun k h0 h1 h2 h3 => ?_)
    rw [spec_DocValue.f, if_neg c1, c18, spec_DocValue.j0, if_neg (by decide), if_neg (by decide), if_neg (by decide), spec_DocValue.j1, if_neg (by decide), if_neg (by decide), spec_DocValue.j2, if_neg (by decide), if_neg (by decide), if_neg (by decide), if_neg (by decide), if_neg (by decide), spec_DocValue.j3, if_pos (by decide), hK2 _ (by omega)]; rfl
  by_cases c16 : v.f0 = 16
  · refine go ([] ++ le4 v.f3) (by simp only [List.length_append, le8_length, le4_length, List.length_nil, List.length_cons, bytesOf_length]; omega) (fun k h0 h1 h2 h3 => ?_)
    rw [spec_DocValue.f, if_neg c1, c16, spec_DocValue.j0, if_neg (by decide), if_neg (by decide), if_neg (by decide), spec_DocValue.j1, if_neg (by decide), if_neg (by decide), spec_DocValue.j2, if_neg (by decide), if_neg (by decide), if_neg (by decide), if_neg (by decide), if_neg (by decide), spec_DocValue.j3, if_neg (by decide), if_pos (by decide), i32]; rfl
  by_cases c11 : v.f0 = 11
  · refine go ([] ++ bytesOf v.f1 ++ [0] ++ bytesOf v.f2 ++ [0]) (by simp only [List.length_append, le8_length, le4_length, List.length_nil, List.length_cons, bytesOf_length]; omega) (fun k h0 h1 h2 h3 => ?_)
    have j1 : ([] : List Int).length + v.f1.size < 140737488355328 := (by simp only [List.length_append, le8_length, le4_length, List.length_nil, List.length_cons, bytesOf_length]; omega)
    have j2 : (([] : List Int) ++ bytesOf v.f1).length < 140737488355328 := (by simp only [List.length_append, le8_length, le4_length, List.length_nil, List.length_cons, bytesOf_length]; omega)
    have j3 : (([] : List Int) ++ bytesOf v.f1 ++ [0]).length + v.f2.size < 140737488355328 := (by simp only [List.length_append, le8_length, le4_length, List.length_nil, List.length_cons, bytesOf_length]; omega)
    have j4 : (([] : List Int) ++ bytesOf v.f1 ++ [0] ++ bytesOf v.f2).length < 140737488355328 := (by simp only [List.length_append, le8_length, le4_length, List.length_nil, List.length_cons, bytesOf_length]; omega)
    rw [spec_DocValue.f, if_neg c1, c11, spec_DocValue.j0, if_neg (by decide), if_neg (by decide), if_neg (by decide), spec_DocValue.j1, if_neg (by decide), if_neg (by decide), spec_DocValue.j2, if_neg (by decide), if_neg (by decide), if_neg (by decide), if_neg (by decide), if_neg (by decide), spec_DocValue.j3, if_neg (by decide), if_neg (by decide), if_pos (by decide)]
    simp only [Option.bind_some, j1, j2, j3, j4, if_true]
  by_cases c12 : v.f0 = 12
  · refine go (tx ++ v.f6) (by rw [List.length_append, htl]; omega) (fun k h0 h1 h2 h3 => ?_)
    have j1 : tx.length + v.f6.length < 140737488355328 := by rw [htl]; omega
    rw [spec_DocValue.f, if_neg c1, c12, spec_DocValue.j0, if_neg (by decide), if_neg (by decide), if_neg (by decide), spec_DocValue.j1, if_neg (by decide), if_neg (by decide), spec_DocValue.j2, if_neg (by decide), if_neg (by decide), if_neg (by decide), if_neg (by decide), if_neg (by decide), spec_DocValue.j3, if_neg (by decide), if_neg (by decide), if_neg (by decide), if_pos (by decide), htx]
    simp only [Option.bind_some, j1, if_true]
  by_cases c15 : v.f0 = 15
  · refine go ([] ++ le4 (wrap64 ((wrap64 (4 + (tx.length : Int))) + (lk.length : Int))) ++ tx ++ lk) (by simp only [List.length_append, le4_length, htl, List.length_nil]; omega) (fun k h0 h1 h2 h3 => ?_)
    have j1 : (([] : List Int) ++ le4 (wrap64 ((wrap64 (4 + (tx.length : Int))) + (lk.length : Int)))).length + tx.length < 140737488355328 := by simp only [List.length_append, le4_length, htl, List.length_nil]; omega
    have j2 : (([] : List Int) ++ le4 (wrap64 ((wrap64 (4 + (tx.length : Int))) + (lk.length : Int))) ++ tx).length + lk.length < 140737488355328 := by simp only [List.length_append, le4_length, htl, List.length_nil]; omega
    rw [spec_DocValue.f, if_neg c1, c15, spec_DocValue.j0, if_neg (by decide), if_neg (by decide), if_neg (by decide), spec_DocValue.j1, if_neg (by decide), if_neg (by decide), spec_DocValue.j2, if_neg (by decide), if_neg (by decide), if_neg (by decide), if_neg (by decide), if_neg (by decide), spec_DocValue.j3, if_neg (by decide), if_neg (by decide), if_neg (by decide), if_neg (by decide), if_pos (by decide), htx, hK0 _ (by omega)]
    simp only [Option.bind_some, i32, j1, j2, if_true]
  by_cases c19 : v.f0 = 19
  · refine go ([] ++ le8 v.f4 ++ le8 v.f5) (by simp only [List.length_append, le8_length, le4_length, List.length_nil, List.length_cons, bytesOf_length]; omega) (fun k h0 h1 h2 h3 => ?_)
    rw [spec_DocValue.f, if_neg c1, c19, spec_DocValue.j0, if_neg (by decide), if_neg (by decide), if_neg (by decide), spec_DocValue.j1, if_neg (by decide), if_neg (by decide), spec_DocValue.j2, if_neg (by decide), if_neg (by decide), if_neg (by decide), if_neg (by decide), if_neg (by decide), spec_DocValue.j3, if_neg (by decide), if_neg (by decide), if_neg (by decide), if_neg (by decide), if_neg (by decide), if_pos (by decide), hK1 _ (by omega)]
    simp only [Option.bind_some, hK3 _ h3]
  refine go [] (Nat.zero_le _) (fun k h0 h1 h2 h3 => ?_)
  rw [spec_DocValue.f, if_neg c1, spec_DocValue.j0, if_neg (fun h => c17 (by simpa using h)), if_neg c2, if_neg c13, spec_DocValue.j1, if_neg (fun h => c14 (by simpa using h)), if_neg c3, spec_DocValue.j2, if_neg (fun h => c4 (by simpa using h)), if_neg c5, if_neg c7, if_neg c8, if_neg c9, spec_DocValue.j3, if_neg (fun h => c18 (by simpa using h)), if_neg c16, if_neg c11, if_neg c12, if_neg c15, if_neg c19]
theorem value {v : S46} {n b : Nat} (h : SzV v n b) : FitV v → n ≤ 1000 → b ≤ 65536 → ∃ l, Ev (fun k => spec_DocValue.f k v.f0 v.f1 v.f2 v.f3 v.f4 v.f5 v.f6 v.f7) l ∧ l.length + 2 ≤ b + 24 * n :=
  SzV.rec (motive_1 := fun v n b _ => FitV v → n ≤ 1000 → b ≤ 65536 → ∃ l, Ev (fun k => spec_DocValue.f k v.f0 v.f1 v.f2 v.f3 v.f4 v.f5 v.f6 v.f7) l ∧ l.length + 2 ≤ b + 24 * n)
    (motive_2 := fun r n b _ => n ≤ 1000 → b ≤ 65536 → (∀ e, e ∈ r → FitV e.f1) → ∀ (K pre : List S73) (acc : List Int), K = pre ++ r → K.length ≤ M → acc.length + b + 24 * n ≤ 100000 → ∃ l, Ev (fun k => spec_DocBytes.l0 k K acc (pre.length : Int)) l ∧ l.length ≤ acc.length + b + 24 * n + 5)
    (fun v n b hs ih hv hn hb => by
      obtain ⟨lk, ev, hl⟩ := ih (by omega) (by omega) hv.kid v.f7 [] [] rfl hv.kids (by simp only [List.length_nil]; omega)
      have ev' : Ev (fun k => spec_DocBytes.f k v.f7) lk := Ev.step (fun k => by rw [spec_DocBytes.f]; rfl) ev
      simp only [List.length_nil] at hl
      obtain ⟨l, h1, h2⟩ := dv_cases v (by omega) (by omega) (by omega) (by omega) lk ev' (by omega)
      exact ⟨l, h1, by omega⟩)
    (fun hn hb hk K pre acc he hM ha => by
      obtain ⟨l, hl, hll⟩ := doc_some acc (by omega)
      refine ⟨l, ⟨1, fun k hk => ?_⟩, by omega⟩
      obtain ⟨k, rfl⟩ : ∃ q, k = q + 1 := ⟨k - 1, by omega⟩
      show spec_DocBytes.l0 (k + 1) _ _ _ = _
      rw [spec_DocBytes.l0, if_neg (by rw [he]; simp)]
      exact hl)
    (fun e r n b n' b' hs hr ih ihr hn hb hk K pre acc he hM ha => by
      have hM' : K.length ≤ 140737488351232 := hM
      have hlen : K.length = pre.length + (r.length + 1) := by rw [he]; simp
      have he' : rd_T73 K (pre.length : Int) = e := by rw [he]; exact rd_at pre r e
      obtain ⟨lv, ev1, hl1⟩ := ih (hk e (by simp)) (by omega) (by omega)
      obtain ⟨hd, hhd, hhl⟩ := head_some e.f1.f0 e.f0 (by omega)
      obtain ⟨l, ev2, hl2⟩ := ihr (by omega) (by omega) (fun x hx => hk x (by simp [hx])) K (pre ++ [e]) (acc ++ (hd ++ lv)) (by rw [he]; simp) hM (by simp only [List.length_append]; omega)
      refine ⟨l, ?_, by simp only [List.length_append] at hl2; omega⟩
      have hsum : hd.length + lv.length < 140737488355328 := by omega
      have evE : Ev (fun k => spec_DocElem.f k e.f0 e.f1.f0 e.f1.f1 e.f1.f2 e.f1.f3 e.f1.f4 e.f1.f5 e.f1.f6 e.f1.f7) (hd ++ lv) := by
        refine Ev.step (f := fun k => (spec_DocValue.f k e.f1.f0 e.f1.f1 e.f1.f2 e.f1.f3 e.f1.f4 e.f1.f5 e.f1.f6 e.f1.f7).bind fun t300 => (if hd.length + t300.length < 140737488355328 then (some (hd ++ t300)) else (none))) (fun k => by rw [spec_DocElem.f, hhd]; rfl) ?_
        refine Ev.bind ev1 ?_
        exact Ev.congr (fun k => by rw [if_pos hsum]) (Ev.now _)
      refine Ev.step (f := fun k => (spec_DocElem.f k e.f0 e.f1.f0 e.f1.f1 e.f1.f2 e.f1.f3 e.f1.f4 e.f1.f5 e.f1.f6 e.f1.f7).bind fun t => (if acc.length + t.length < 140737488355328 then (spec_DocBytes.l0 k K (acc ++ t) (wrap64 ((pre.length : Int) + 1))) else (none))) (fun k => ?_) ?_
      · rw [spec_DocBytes.l0, if_pos (by omega), if_pos (by omega), he']
      · refine Ev.bind evE ?_
        have e2 : wrap64 ((pre.length : Int) + 1) = (((pre ++ [e]).length : Nat) : Int) := by rw [w64 (by omega) (by omega)]; simp
        exact Ev.congr (fun k => by rw [if_pos (by simp only [List.length_append]; omega), e2]) ev2) h
open Go.Proofs.YtbfhpjkahobgnaaGreatDoor.OP
theorem k_of {w : World} {x : S73} {cs : List Value} (h : (F73 k73).K w x cs) : k73.K w x cs := by
  obtain ⟨_, _, rfl, rfl, ⟨_, _, rfl, rfl, ⟨_, _, rfl, rfl, ⟨_, _, rfl, rfl, ⟨_, _, rfl, rfl, ⟨_, _, rfl, rfl, ⟨_, _, rfl, rfl, ⟨_, _, rfl, ⟨A7, c7, rfl, l7, g7⟩, ⟨A8, c8, rfl, l8, g8⟩⟩⟩⟩⟩⟩⟩⟩⟩ := h
  exact k73_mk w x l7 g7 l8 g8
theorem opensV (f : Nat) (h : ∀ f', f' < f → Opens Tryz.prog k73 73 (fun e => e.f0.size ≤ M ∧ FitV e.f1) f') : Opens Tryz.prog k46 46 FitV f := by
  refine opens_struct _ _ (fun a => ⟨a.1, a.2.1, a.2.2.1, a.2.2.2.1, a.2.2.2.2.1, a.2.2.2.2.2.1, a.2.2.2.2.2.2.1, a.2.2.2.2.2.2.2⟩) (fun a => rfl) FitV Tryz.underlying46 (by kernel_rfl) (fun f' hf => ?_)
  have h7 : Opens Tryz.prog (Kd.slice 73 k73) 39 (fun xs => xs.length * 128 ≤ 140737488351232 ∧ xs.length ≤ maxLen ∧ ∀ x, x ∈ xs → (fun e : S73 => e.f0.size ≤ M ∧ FitV e.f1) x) f' := opens_slice (B := 128) k73 73 _ (by kernel_rfl) (by kernel_rfl) (by kernel_rfl) (fun f2 h2 => h f2 (by omega))
  have h6 : Opens Tryz.prog (Kd.slice 5 (Kd.int .u8)) 22 (fun xs => xs.length * 1 ≤ 140737488351232 ∧ xs.length ≤ maxLen ∧ ∀ x, x ∈ xs → (fun n => (Lit.int .u8 n).wf = true) x) f' := opens_slice (e := 5) (B := 1) (Kd.int .u8) 5 _ (by kernel_rfl) (by kernel_rfl) (by kernel_rfl) (fun f2 h2 => opens_int .u8 (by kernel_rfl) f2)
  intro H enc w cs xs hx hl hw
  obtain ⟨a, hK, g0, g1, g2, g3, g4, g5, g6, g7⟩ := opensF_cons (Kd.int .i64) _ _ _ 0 _ _ rfl (by kernel_rfl) (opens_int .i64 (by kernel_rfl) f')
    (opensF_cons Kd.string _ _ _ 1 _ _ rfl (by kernel_rfl) (opens_string (by kernel_rfl) f')
    (opensF_cons Kd.string _ _ _ 2 _ _ rfl (by kernel_rfl) (opens_string (by kernel_rfl) f')
    (opensF_cons (Kd.int .i64) _ _ _ 3 _ _ rfl (by kernel_rfl) (opens_int .i64 (by kernel_rfl) f')
    (opensF_cons (Kd.int .u64) _ _ _ 4 _ _ rfl (by kernel_rfl) (opens_int .u64 (by kernel_rfl) f')
    (opensF_cons (Kd.int .u64) _ _ _ 5 _ _ rfl (by kernel_rfl) (opens_int .u64 (by kernel_rfl) f')
    (opensF_cons (Kd.slice 5 (Kd.int .u8)) (Kd.slice 73 k73) _ _ 6 _ _ rfl (by kernel_rfl) h6
    (opensF_one (Kd.slice 73 k73) _ 7 _ rfl (by kernel_rfl) h7))))))) enc w cs xs hx hl hw
  refine ⟨a, hK, FitV.mk _ g0 g1 g2 g3 g4 g5 (by have := g6.1; show a.2.2.2.2.2.2.1.length ≤ 140737488351232; omega) g6.2.2 (by have := g7.1; show a.2.2.2.2.2.2.2.length ≤ 140737488351232; omega) (fun e he => (g7.2.2 e he).1) (fun e he => (g7.2.2 e he).2)⟩
theorem opensE (f : Nat) : Opens Tryz.prog k73 73 (fun e => e.f0.size ≤ M ∧ FitV e.f1) f := by
  induction f using Nat.strongRecOn with
  | _ f ih =>
  have hs : Opens Tryz.prog (F73 k73) 73 (fun e => e.f0.size ≤ M ∧ FitV e.f1) f := by
    refine opens_struct _ _ (fun a => ⟨a.1, a.2⟩) (fun a => rfl) _ Tryz.underlying73 (by kernel_rfl) (fun f' hf => ?_)
    exact opensF_cons Kd.string k46 _ _ 0 _ _ rfl (by kernel_rfl) (opens_string (by kernel_rfl) f')
      (opensF_one k46 _ 1 _ rfl (by kernel_rfl) (opensV f' (fun f2 h2 => ih f2 (by omega))))
  intro H enc w cs x hx hw
  obtain ⟨a, hK, hF⟩ := hs enc w cs x hx hw
  exact ⟨a, k_of hK, hF⟩

end Go.Proofs.YtbfhpjkahobgnaaGreatDoor.PLo.VT
