/- The law of FnExtInts holds of what its code computes: texts are read as integers of 32 and 64 bits as the specification says. Conditions: as each theorem states them. -/
import Derived.Test.YtdcoingcpkhmiaaDoorPEix3
import Derived.Test.YtdcoingcpkhmiaaDoorPL
import Derived.Lib.IndexBytes
namespace Go.Proofs.YtdcoingcpkhmiaaDoor.Pure
open Go.RowKit Go.Proofs.YtdcoingcpkhmiaaDoor.PEi Go.Proofs.YtdcoingcpkhmiaaDoorW.PrintWords Go.Proofs.YtdcoingcpkhmiaaDoorW.PrintLast Go.Proofs.YtdcoingcpkhmiaaDoorW.PrintMore
open PL
theorem w64 {x : Int} (h0 : -9223372036854775808 ≤ x) (h1 : x ≤ 9223372036854775807) : wrap64 x = x := by unfold wrap64; omega
theorem bt_list (s : ByteArray) (i : Nat) (c : UInt8) (r : List UInt8) (h : s.data.toList.drop i = c :: r) : i < s.size ∧ bt s (i : Int) = (c.toNat : Int) ∧ s.data.toList.drop (i + 1) = r := by
  have hi : i < s.data.toList.length := by
    rcases Nat.lt_or_ge i s.data.toList.length with h1 | h1
    · exact h1
    · rw [List.drop_eq_nil_of_le h1] at h; cases h
  have hs : i < s.size := by simpa using hi
  have hc : s.data.toList[i] = c := by
    have := List.drop_eq_getElem_cons hi
    rw [h] at this
    injection this with h1 _
    exact h1.symm
  refine ⟨hs, ?_, ?_⟩
  · rw [bt_get s i (by omega) (by omega), Int.toNat_natCast, get_data s i hs, hc]
  · have := List.drop_eq_getElem_cons hi
    rw [h] at this
    injection this with _ h2
    exact h2.symm
theorem drop_end (s : ByteArray) (i : Nat) (h : s.data.toList.drop i = []) : s.size ≤ i := by
  have := congrArg List.length h
  simp at this
  have e : s.size = s.data.size := rfl
  omega
theorem dec_ev (s : ByteArray) (hs : s.size ≤ 1000) : ∀ (l : List UInt8) (i : Nat), s.data.toList.drop i = l → i ≤ s.size → Ev (fun k => spec_decAll.l0 k s (i : Int)) (Ein.digs l)
  | [], i, h, hi => by
    have := drop_end s i h
    refine ⟨1, fun k hk => ?_⟩
    obtain ⟨k, rfl⟩ : ∃ q, k = q + 1 := ⟨k - 1, by omega⟩
    show spec_decAll.l0 (k + 1) _ _ = _
    rw [spec_decAll.l0, if_neg (by omega)]
    rfl
  | c :: r, i, h, hi => by
    obtain ⟨h1, h2, h3⟩ := bt_list s i c r h
    have ih := dec_ev s hs r (i + 1) h3 (by omega)
    have hw : wrap64 ((i : Int) + 1) = ((i + 1 : Nat) : Int) := by rw [w64 (by omega) (by omega)]; omega
    by_cases hd : 48 ≤ c.toNat ∧ c.toNat ≤ 57
    · have e : Ein.digs (c :: r) = Ein.digs r := by simp [Ein.digs, hd]
      rw [e]
      refine Ev.step (f := fun k => spec_decAll.j1 k s (i : Int) false) (fun k => ?_) ?_
      · rw [spec_decAll.l0, if_pos (by omega), if_pos (by omega), h2, if_neg (by omega), decide_eq_false (by omega)]
      · exact Ev.step (f := fun k => spec_decAll.l0 k s ((i + 1 : Nat) : Int)) (fun k => by rw [spec_decAll.j1, if_neg (by decide), hw]) ih
    · have e : Ein.digs (c :: r) = false := by
        rw [Bool.eq_false_iff]
        intro hh
        exact hd ((Ein.digs_cons c r).1 hh).1
      rw [e]
      refine ⟨2, fun k hk => ?_⟩
      obtain ⟨k, rfl⟩ : ∃ q, k = q + 2 := ⟨k - 2, by omega⟩
      show spec_decAll.l0 (k + 1 + 1) _ _ = _
      rw [spec_decAll.l0, if_pos (by omega), if_pos (by omega), h2]
      by_cases h48 : (c.toNat : Int) < 48
      · rw [if_pos h48, spec_decAll.j1, if_pos rfl]
      · rw [if_neg h48, decide_eq_true (by omega), spec_decAll.j1, if_pos rfl]
theorem u64_id {x : Int} (h0 : 0 ≤ x) (h1 : x ≤ 18446744073709551615) : IntKind.u64.wrap x = x := by
  simp [IntKind.wrap, IntKind.bits, IntKind.signed]
  omega
/-- What the loop tells at its end. -/
def fin (neg : Bool) (top n : Nat) : Int × Bool := if neg = true then (-(n : Int), true) else (wrap64 (n : Int), decide (n < top))
theorem fin_eq (neg : Bool) (top n : Nat) (ht : 9 ≤ top) (ht2 : top ≤ 9223372036854775808) (hn : n ≤ top) : (if neg = true then (some (wrap64 ((wrap64 (-(wrap64 (IntKind.u64.wrap ((n : Int) - 1))))) - 1), true)) else (some (wrap64 (n : Int), decide ((n : Int) < (top : Int))))) = some (fin neg top n) := by
  unfold fin
  cases neg with
  | false =>
    rw [if_neg (by decide), if_neg (by decide)]
    have : decide ((n : Int) < (top : Int)) = decide (n < top) := decide_eq_decide.2 (by omega)
    rw [this]
  | true =>
    rw [if_pos rfl, if_pos rfl]
    rcases Nat.eq_zero_or_pos n with rfl | hp
    · decide +kernel
    · have e1 : IntKind.u64.wrap ((n : Int) - 1) = (n : Int) - 1 := u64_id (by omega) (by omega)
      rw [e1, w64 (x := (n : Int) - 1) (by omega) (by omega), w64 (x := -((n : Int) - 1)) (by omega) (by omega), w64 (by omega) (by omega)]
      congr 2
      omega
theorem loop_ev (s : ByteArray) (hs : s.size ≤ 1000) (neg : Bool) (top : Nat) (ht : 9 ≤ top) (ht2 : top ≤ 9223372036854775808) : ∀ (l : List UInt8) (i n : Nat), s.data.toList.drop i = l → i ≤ s.size → Ein.digs l = true → n ≤ top →
    Ev (fun k => spec_ExtInt.l0 k s neg (top : Int) (n : Int) (i : Int)) (match Ein.upTo top n l with | none => (0, false) | some m => fin neg top m)
  | [], i, n, h, hi, hd, hn => by
    have := drop_end s i h
    refine ⟨1, fun k hk => ?_⟩
    obtain ⟨k, rfl⟩ : ∃ q, k = q + 1 := ⟨k - 1, by omega⟩
    show spec_ExtInt.l0 (k + 1) _ _ _ _ _ = some (fin neg top n)
    rw [spec_ExtInt.l0, if_neg (by omega)]
    exact fin_eq neg top n ht ht2 hn
  | c :: r, i, n, h, hi, hd, hn => by
    obtain ⟨h1, h2, h3⟩ := bt_list s i c r h
    obtain ⟨⟨d1, d2⟩, hr⟩ := (Ein.digs_cons c r).1 hd
    have hw : wrap64 ((i : Int) + 1) = ((i + 1 : Nat) : Int) := by rw [w64 (by omega) (by omega)]; omega
    have hdg : ((c.toNat : Int) - 48) % 256 = ((c.toNat - 48 : Nat) : Int) := by omega
    have e1 : IntKind.u64.wrap ((top : Int) - ((c.toNat - 48 : Nat) : Int)) = ((top - (c.toNat - 48) : Nat) : Int) := by rw [u64_id (by omega) (by omega)]; omega
    have e2 : IntKind.u64.wrap (Int.tdiv ((top - (c.toNat - 48) : Nat) : Int) 10) = (((top - (c.toNat - 48)) / 10 : Nat) : Int) := by
      rw [show Int.tdiv ((top - (c.toNat - 48) : Nat) : Int) 10 = (((top - (c.toNat - 48)) / 10 : Nat) : Int) from rfl, u64_id (by omega) (by omega)]
    by_cases hlt : (top - (c.toNat - 48)) / 10 < n
    · have eu : Ein.upTo top n (c :: r) = none := by rw [Ein.upTo, if_pos hlt]
      rw [eu]
      refine ⟨1, fun k hk => ?_⟩
      obtain ⟨k, rfl⟩ : ∃ q, k = q + 1 := ⟨k - 1, by omega⟩
      show spec_ExtInt.l0 (k + 1) _ _ _ _ _ = some (0, false)
      rw [spec_ExtInt.l0, if_pos (by omega), if_pos (by omega), h2, hdg, e1, e2, if_pos (by omega)]
    · have eu : Ein.upTo top n (c :: r) = Ein.upTo top (n * 10 + (c.toNat - 48)) r := by rw [Ein.upTo, if_neg hlt]
      rw [eu]
      have ih := loop_ev s hs neg top ht ht2 r (i + 1) (n * 10 + (c.toNat - 48)) h3 (by omega) hr (by omega)
      refine Ev.step (fun k => ?_) ih
      have e3 : IntKind.u64.wrap ((n : Int) * 10) = ((n * 10 : Nat) : Int) := by rw [u64_id (by omega) (by omega)]; omega
      have e4 : IntKind.u64.wrap (((n * 10 : Nat) : Int) + ((c.toNat - 48 : Nat) : Int)) = ((n * 10 + (c.toNat - 48) : Nat) : Int) := by rw [u64_id (by omega) (by omega)]; omega
      rw [spec_ExtInt.l0, if_pos (by omega), if_pos (by omega), h2, hdg, e1, e2, if_neg (by omega), e3, e4, hw]
/-- What the specification tells: the number, if there is one. -/
def Told (r : Option Int) (t : Int × Bool) : Prop := t.2 = r.isSome ∧ ∀ v, r = some v → t.1 = v
theorem tail_ev (s : ByteArray) (hs : s.size ≤ 1000) (neg : Bool) (bits : Int) (top : Nat) (ht : 9 ≤ top) (ht2 : top ≤ 9223372036854775808) (h0 : 0 ≤ wrap64 (bits - 1)) (hsh : shl .u64 1 (wrap64 (bits - 1)) = (top : Int)) (L : List UInt8) (hL : s.data.toList = L) :
    ∃ t, Ev (fun k => spec_ExtInt.j1 k s bits neg) t ∧ Told (if L = [] then none else if Ein.digs L = true then (match Ein.upTo top 0 L with | none => none | some n => if neg = true then some (-(n : Int)) else if n < top then some (n : Int) else none) else none) t := by
  have bad : ∀ x, x = true → Ev (fun k => spec_ExtInt.j2 k s bits neg x) (0, false) := by
    intro x hx
    refine ⟨1, fun k hk => ?_⟩
    obtain ⟨k, rfl⟩ : ∃ q, k = q + 1 := ⟨k - 1, by omega⟩
    show spec_ExtInt.j2 (k + 1) _ _ _ _ = _
    rw [spec_ExtInt.j2, if_pos hx]
  have hl : s.toList = L := by rw [ByteArray.toList_eq, hL]
  by_cases h1 : L = []
  · rw [if_pos h1]
    refine ⟨(0, false), ?_, rfl, fun v h => (by cases h)⟩
    exact Ev.step (f := fun k => spec_ExtInt.j2 k s bits neg true) (fun k => by rw [spec_ExtInt.j1, if_pos (by rw [hl]; exact h1)]) (bad _ rfl)
  · rw [if_neg h1]
    have hdec : Ev (fun k => spec_decAll.f k s) (Ein.digs L) := dec_ev s hs L 0 (by rw [List.drop_zero, hL]) (Nat.zero_le _)
    have go : ∀ t, Ev (fun k => spec_ExtInt.j2 k s bits neg (!Ein.digs L)) t → Ev (fun k => spec_ExtInt.j1 k s bits neg) t := by
      intro t h
      refine Ev.step (f := fun k => (spec_decAll.f k s).bind fun t101 => spec_ExtInt.j2 k s bits neg (!t101)) (fun k => by rw [spec_ExtInt.j1, if_neg (by rw [hl]; exact h1)]) ?_
      exact Ev.bind hdec h
    by_cases h2 : Ein.digs L = true
    · rw [if_pos h2]
      have hlo := loop_ev s hs neg top ht ht2 L 0 0 (by rw [List.drop_zero, hL]) (Nat.zero_le _) h2 (Nat.zero_le _)
      refine ⟨_, go _ (Ev.step (f := fun k => spec_ExtInt.l0 k s neg (top : Int) 0 0) (fun k => by rw [spec_ExtInt.j2, if_neg (by rw [h2]; decide), if_pos h0, hsh]) hlo), ?_⟩
      cases hu : Ein.upTo top 0 L with
      | none => exact ⟨rfl, fun v h => (by cases h)⟩
      | some n =>
        have hn := Ein.upTo_le top ht L 0 n h2 (Nat.zero_le _) hu
        unfold fin
        cases neg with
        | true => exact ⟨rfl, fun v h => (by injection h)⟩
        | false =>
          have ef : (if false = true then (-(n : Int), true) else (wrap64 (n : Int), decide (n < top))) = (wrap64 (n : Int), decide (n < top)) := if_neg (by decide)
          dsimp only
          rw [ef, if_neg (by decide)]
          by_cases hlt : n < top
          · rw [if_pos hlt]
            exact ⟨by rw [decide_eq_true hlt]; rfl, fun v h => (by injection h with h; rw [← h]; exact w64 (by omega) (by omega))⟩
          · rw [if_neg hlt]
            exact ⟨by rw [decide_eq_false hlt]; rfl, fun v h => (by cases h)⟩
    · rw [if_neg h2]
      refine ⟨(0, false), go _ (bad _ (by rw [Bool.eq_false_iff.2 h2]; rfl)), rfl, fun v h => (by cases h)⟩
theorem spec_ev (s : ByteArray) (hs : s.size ≤ 1000) (bits : Int) (top : Nat) (ht : 9 ≤ top) (ht2 : top ≤ 9223372036854775808) (h0 : 0 ≤ wrap64 (bits - 1)) (hsh : shl .u64 1 (wrap64 (bits - 1)) = (top : Int)) :
    ∃ t, Ev (fun k => spec_ExtInt.f k s bits) t ∧ Told (Ein.told top s.data.toList) t := by
  unfold Ein.told
  cases hL : s.data.toList with
  | nil =>
    obtain ⟨t, h1, h2⟩ := tail_ev s hs false bits top ht ht2 h0 hsh [] hL
    refine ⟨t, ?_, h2⟩
    refine Ev.congr (f := fun k => spec_ExtInt.j0 k s bits false false) (fun k => by unfold spec_ExtInt.f; rw [if_pos (by rw [ByteArray.toList_eq, hL])]) ?_
    exact Ev.step (f := fun k => spec_ExtInt.j1 k s bits false) (fun k => by rw [spec_ExtInt.j0, if_neg (by decide)]) h1
  | cons c r =>
    obtain ⟨a1, a2, a3⟩ := bt_list s 0 c r (by rw [List.drop_zero, hL])
    have a2' : bt s 0 = (c.toNat : Int) := a2
    have hne : ¬ s.toList = [] := by rw [ByteArray.toList_eq, hL]; intro h; cases h
    by_cases hc : c.toNat = 43 ∨ c.toNat = 45
    · have hsg : Ein.sgn (c :: r) = (c.toNat == 45, r) := by simp [Ein.sgn, hc]
      rw [hsg]
      obtain ⟨t, h1, h2⟩ := tail_ev (s.extract 1 s.size) (by rw [ByteArray.size_extract]; omega) (c.toNat == 45) bits top ht ht2 h0 hsh r (by rw [Lib.extract_to_end, hL]; rfl)
      refine ⟨t, ?_, h2⟩
      have e : ((bt s 0) == 45) = (c.toNat == 45) := by
        rw [a2']
        rw [Bool.eq_iff_iff]
        simp only [beq_iff_eq]
        omega
      have step : Ev (fun k => spec_ExtInt.j0 k s bits false true) t := by
        refine Ev.step (fun k => ?_) h1
        rw [spec_ExtInt.j0, if_pos rfl, if_pos (by omega), if_pos (by omega), e]
      refine Ev.congr (f := fun k => spec_ExtInt.j0 k s bits false true) (fun k => ?_) step
      unfold spec_ExtInt.f
      rw [if_neg hne, if_pos (by omega), a2']
      by_cases h45 : (c.toNat : Int) = 45
      · rw [if_pos h45]
      · rw [if_neg h45, show ((c.toNat : Int) == 43) = true by rw [beq_iff_eq]; omega]
    · have hsg : Ein.sgn (c :: r) = (false, c :: r) := by simp only [Ein.sgn, if_neg hc]
      rw [hsg]
      obtain ⟨t, h1, h2⟩ := tail_ev s hs false bits top ht ht2 h0 hsh (c :: r) hL
      refine ⟨t, ?_, h2⟩
      refine Ev.congr (f := fun k => spec_ExtInt.j0 k s bits false false) (fun k => ?_) (Ev.step (f := fun k => spec_ExtInt.j1 k s bits false) (fun k => by rw [spec_ExtInt.j0, if_neg (by decide)]) h1)
      unfold spec_ExtInt.f
      rw [if_neg hne, if_pos (by omega), a2', if_neg (by omega), show ((c.toNat : Int) == 43) = false by rw [beq_eq_false_iff_ne]; omega]
theorem seven : Ein.read32 (⟨#[45, 55]⟩ : ByteArray).data.toList = some (-7) := by decide +kernel
theorem told_32' (l : List UInt8) : Ein.told 2147483648 l = Ein.read32 l := Ein.told_32 l
theorem FnExtInts : laws_FnExtInts.Pure := by
  intro a0 ha
  apply Ev.rounds
  by_cases h1 : (a0.size : Int) > 2147483647
  · exact ⟨0, fun k _ => by show laws_FnExtInts.f k a0 = _; unfold laws_FnExtInts.f; rw [if_pos h1]⟩
  by_cases h2 : (a0.size : Int) > 300
  · exact ⟨0, fun k _ => by show laws_FnExtInts.f k a0 = _; unfold laws_FnExtInts.f; rw [if_neg h1, if_pos h2]⟩
  obtain ⟨⟨m, ok⟩, ev1, t1, t2⟩ := spec_ev a0 (by omega) 32 2147483648 (by omega) (by omega) (by decide +kernel) (by decide +kernel)
  obtain ⟨⟨n, good⟩, ev2, g1, g2⟩ := spec_ev a0 (by omega) 64 9223372036854775808 (by omega) (by omega) (by decide +kernel) (by decide +kernel)
  rw [told_32'] at t1 t2
  rw [Ein.told_64] at g1 g2
  dsimp only at t1 t2 g1 g2
  have i32 : impl_ExtInt32.f a0 = some ((Ein.read32 a0.data.toList).getD 0, (Ein.read32 a0.data.toList).isSome) := by unfold impl_ExtInt32.f; rw [if_pos (by omega)]
  have i64 : impl_ExtInt64.f a0 = some ((Ein.read64 a0.data.toList).getD 0, (Ein.read64 a0.data.toList).isSome) := by unfold impl_ExtInt64.f; rw [if_pos (by omega)]
  have i7 : impl_ExtInt32.f (⟨#[45, 55]⟩ : ByteArray) = some (-7, true) := by unfold impl_ExtInt32.f; rw [if_pos (by decide), seven]; rfl
  have r32 : ∀ v, Ein.read32 a0.data.toList = some v → -2147483648 ≤ v ∧ v ≤ 2147483647 := by
    intro v hv
    unfold Ein.read32 at hv
    obtain ⟨x, hx, hv⟩ := Option.bind_eq_some_iff.1 hv
    split at hv
    · injection hv with hv; omega
    · cases hv
  refine Ev.congr (fun k => by unfold laws_FnExtInts.f; rw [if_neg h1, if_neg h2]) ?_
  refine Ev.bind ev1 ?_
  refine Ev.bind ev2 ?_
  refine ⟨0, fun k _ => ?_⟩
  simp only [i32, i64, i7, Option.bind_some]
  rw [if_pos trivial, if_pos trivial, t1, g1]
  simp only [beq_self_eq_true, if_true]
  have e64 : (if (Ein.read64 a0.data.toList).isSome = true then some ((Ein.read64 a0.data.toList).getD 0 == n) else some true) = some true := by
    cases h : Ein.read64 a0.data.toList with
    | none => rfl
    | some v => rw [g2 v h]; simp
  rw [e64]
  cases e32 : Ein.read32 a0.data.toList with
  | none => rfl
  | some u =>
    obtain ⟨b1, b2⟩ := r32 u e32
    show (if true = true then (if wrap64 u = m then some true else some false) else some true) = some true
    rw [if_pos rfl, t2 u e32, if_pos (w64 (by omega) (by omega))]
end Go.Proofs.YtdcoingcpkhmiaaDoor.Pure
