/- FnExtRegexes: the law's walk and its plain side. Conditions: as each theorem states them. -/
import Derived.Test.YthlpmeiihchdjaaProg
import Derived.Test.YthlpmeiihchdjaaHW
import Derived.Below
import Derived.Deep.Draws
import Derived.OwnWalk
import Derived.Tactics
import Derived.WalkKit
import Derived.KernelRfl
import Derived.RowKit3
import Derived.Deep.LoopGhost
import Derived.Deep.QuietTactic
import Derived.BigQuiet
import Derived.WideLaws
import Derived.Deep.DeepCutAuto
import Derived.Deep.CutBlock
import Derived.Laws.Rows
import Derived.Outline
import Derived.StillTailTactics
import Derived.Deep.RegionHeld3
import Derived.Test.YthlpmeiihchdjaaPRx1
import Derived.Test.YthlpmeiihchdjaaPRx2
import Derived.Deep.RegionWith
import Derived.Test.YthlpmeiihchdjaaPL
import Derived.Test.YthlpmeiihchdjaaRx
namespace Go.Proofs.Ythlpmeiihchdjaa.Rxl
open Go.RowKit Go.Proofs.YthlpmeiihchdjaaW.PrintWords Go.Proofs.YthlpmeiihchdjaaW.PrintLast Go.Proofs.YthlpmeiihchdjaaW.PrintMore
set_option linter.unusedVariables false
set_option linter.unusedSimpArgs false
open Go.Lib Go.Proofs.Ythlpmeiihchdjaa.PR Go.Proofs.Ythlpmeiihchdjaa.PL
open Go.Proofs.Ythlpmeiihchdjaa.Rx
/-! The plain side. -/
open Go.RowKit in
theorem fits_some (l : List ByteArray) (hl : l.length ≤ 9223372036854775000) : ∃ k b, laws_zzFits2.f k l = some b := by
  have loop : ∀ (d i : Nat), i + d = l.length → ∀ k, d < k → ∃ b, laws_zzFits2.l0 k l (l.length : Int) (i : Int) = some b := by
    intro d
    induction d with
    | zero =>
      intro i hi k hk
      obtain ⟨k, rfl⟩ : ∃ m, k = m + 1 := ⟨k - 1, by omega⟩
      exact ⟨true, by simp only [laws_zzFits2.l0]; rw [if_neg (by omega)]⟩
    | succ d ih =>
      intro i hi k hk
      obtain ⟨k, rfl⟩ : ∃ m, k = m + 1 := ⟨k - 1, by omega⟩
      simp only [laws_zzFits2.l0]
      rw [if_pos (by omega), if_pos (by omega), if_pos (by omega)]
      by_cases h : ((rdOf ByteArray.empty l (i : Int)).size : Int) > 2147483647
      · exact ⟨false, by rw [if_pos h]⟩
      · rw [if_neg h, PL.wrap_id (by omega) (by omega)]
        exact ih (i + 1) (by omega) k (by omega)
  unfold laws_zzFits2.f
  by_cases h : (l.length : Int) > 2147483647
  · exact ⟨0, false, by rw [if_pos h]⟩
  · obtain ⟨b, hb⟩ := loop l.length 0 (by omega) (l.length + 1) (by omega)
    exact ⟨l.length + 1, b, by rw [if_neg h]; exact hb⟩
theorem plain_some (s : ByteArray) (hl : s.size ≤ 9223372036854775000) : ∃ k b, spec_DocPlain.f k s = some b := by
  have loop : ∀ (d i : Nat), i + d = s.size → ∀ k, d < k → ∃ b, spec_DocPlain.l0 k s (i : Int) = some b := by
    intro d
    induction d with
    | zero =>
      intro i hi k hk
      obtain ⟨k, rfl⟩ : ∃ m, k = m + 1 := ⟨k - 1, by omega⟩
      exact ⟨true, by simp only [spec_DocPlain.l0]; rw [if_neg (by omega)]⟩
    | succ d ih =>
      intro i hi k hk
      obtain ⟨k, rfl⟩ : ∃ m, k = m + 1 := ⟨k - 1, by omega⟩
      simp only [spec_DocPlain.l0]
      rw [if_pos (by omega), if_pos (by omega)]
      by_cases h : bt s (i : Int) = 0
      · exact ⟨false, by rw [if_pos h]⟩
      · rw [if_neg h, PL.wrap_id (by omega) (by omega)]
        exact ih (i + 1) (by omega) k (by omega)
  obtain ⟨b, hb⟩ := loop s.size 0 (by omega) (s.size + 1) (by omega)
  exact ⟨s.size + 1, b, hb⟩
theorem inner_some (x7 : List (List ByteArray)) (x8 x9 : Int) (l : List ByteArray) (hl : l.length ≤ 6) (K : Nat) (P : Option Bool) (hP : ∀ k, K ≤ k → laws_extPlain.l0 k x7 x8 (wrap64 (x9 + 1)) = P) :
    ∀ (d i : Nat), i + d = l.length → ∀ k, K + d < k → laws_extPlain.l1 k x7 x8 x9 l (l.length : Int) (i : Int) = some false ∨ laws_extPlain.l1 k x7 x8 x9 l (l.length : Int) (i : Int) = P := by
  intro d
  induction d with
  | zero =>
    intro i hi k hk
    obtain ⟨k, rfl⟩ : ∃ m, k = m + 1 := ⟨k - 1, by omega⟩
    exact .inr (by simp only [laws_extPlain.l1]; rw [if_neg (by omega)]; exact hP k (by omega))
  | succ d ih =>
    intro i hi k hk
    obtain ⟨k, rfl⟩ : ∃ m, k = m + 1 := ⟨k - 1, by omega⟩
    simp only [laws_extPlain.l1]
    rw [if_pos (by omega), if_pos (by omega), if_pos (by omega)]
    by_cases h : ((rdOf ByteArray.empty l (i : Int)).size : Int) > 300
    · exact .inl (by rw [if_pos h])
    · rw [if_neg h, PL.wrap_id (by omega) (by omega)]
      exact ih (i + 1) (by omega) k (by omega)
theorem ext_some (n t : List ByteArray) : ∃ k b, laws_extPlain.f k [n, t] = some b ∧ (b = true → n.length ≤ 6 ∧ t.length ≤ 6) := by
  have e0 : rd_L1 [n, t] 0 = n := rfl
  have e1 : rd_L1 [n, t] 1 = t := rfl
  have w0 : wrap64 (0 + 1) = 1 := by rw [PL.wrap_id (by omega) (by omega)]; rfl
  have w1 : wrap64 (1 + 1) = 2 := by rw [PL.wrap_id (by omega) (by omega)]; rfl
  by_cases hn : n.length ≤ 6
  · by_cases ht : t.length ≤ 6
    · have s2 : ∀ k, 1 ≤ k → laws_extPlain.l0 k [n, t] 2 (wrap64 (1 + 1)) = some true := by
        intro k hk
        obtain ⟨k, rfl⟩ : ∃ m, k = m + 1 := ⟨k - 1, by omega⟩
        rw [w1]; simp only [laws_extPlain.l0]; rw [if_neg (by decide)]
      have s1' : ∀ k, 9 ≤ k → ∃ b, laws_extPlain.l0 k [n, t] 2 1 = some b := by
        intro k hk
        obtain ⟨k, rfl⟩ : ∃ m, k = m + 1 := ⟨k - 1, by omega⟩
        simp only [laws_extPlain.l0]
        rw [if_pos (by decide), if_pos (by decide), if_pos (by simp), e1, if_neg (by omega)]
        rcases inner_some [n, t] 2 1 t ht 1 _ s2 t.length 0 (by omega) k (by omega) with h | h
        · exact ⟨_, h⟩
        · exact ⟨_, h⟩
      obtain ⟨b1, hb1⟩ := s1' 9 (by omega)
      have s1 : ∀ k, 9 ≤ k → laws_extPlain.l0 k [n, t] 2 (wrap64 (0 + 1)) = some b1 := by
        intro k hk
        rw [w0]
        have up : ∀ j, laws_extPlain.l0 (9 + j) [n, t] 2 1 = some b1 := by
          intro j
          induction j with
          | zero => exact hb1
          | succ j ih => exact (laws_extPlain.mono_l (9 + j)).1 _ _ _ _ ih
        have := up (k - 9)
        rwa [show 9 + (k - 9) = k by omega] at this
      have top : ∃ b, laws_extPlain.l0 30 [n, t] 2 0 = some b := by
        simp only [laws_extPlain.l0.eq_2]
        rw [if_pos (by decide), if_pos (by decide), if_pos (by simp), e0, if_neg (by omega)]
        rcases inner_some [n, t] 2 0 n hn 9 _ s1 n.length 0 (by omega) 29 (by omega) with h | h
        · exact ⟨_, h⟩
        · exact ⟨_, h⟩
      obtain ⟨b, hb⟩ := top
      exact ⟨30, b, hb, fun _ => ⟨hn, ht⟩⟩
    · have s1 : ∀ k, 1 ≤ k → laws_extPlain.l0 k [n, t] 2 (wrap64 (0 + 1)) = some false := by
        intro k hk
        obtain ⟨k, rfl⟩ : ∃ m, k = m + 1 := ⟨k - 1, by omega⟩
        rw [w0]; simp only [laws_extPlain.l0]
        rw [if_pos (by decide), if_pos (by decide), if_pos (by simp), e1, if_pos (by omega)]
      refine ⟨30, false, ?_, fun h => by cases h⟩
      show laws_extPlain.l0 30 [n, t] 2 0 = _
      simp only [laws_extPlain.l0.eq_2]
      rw [if_pos (by decide), if_pos (by decide), if_pos (by simp), e0, if_neg (by omega)]
      rcases inner_some [n, t] 2 0 n hn 1 _ s1 n.length 0 (by omega) 29 (by omega) with h | h
      · exact h
      · exact h
  · refine ⟨30, false, ?_, fun h => by cases h⟩
    show laws_extPlain.l0 30 [n, t] 2 0 = _
    simp only [laws_extPlain.l0.eq_2]
    rw [if_pos (by decide), if_pos (by decide), if_pos (by simp), e0, if_pos (by omega)]

open Go.Proofs.Ythlpmeiihchdjaa.Rx
theorem list_of (s : ByteArray) (l : List UInt8) : (s.toList == l) = true ↔ s.toList = l := by simp
theorem rxl_full (n t : ByteArray) (r : List (ByteArray × ByteArray)) (a b : ByteArray) : rxl ((n, t) :: r) true true a b = none := by
  rw [rxl]
  (repeat' split) <;> first | rfl | contradiction
theorem rxl_half (n t m s : ByteArray) (r : List (ByteArray × ByteArray)) (a b : ByteArray) : rxl ((n, t) :: (m, s) :: r) true false a b = none ∧ rxl ((n, t) :: (m, s) :: r) false true a b = none := by
  constructor
  · rw [rxl]
    (repeat' split) <;> first | rfl | contradiction | exact rxl_full _ _ _ _ _
  · rw [rxl]
    (repeat' split) <;> first | rfl | contradiction | exact rxl_full _ _ _ _ _
theorem rxl_long (n0 n1 n2 t0 t1 t2 : ByteArray) (r : List (ByteArray × ByteArray)) (a b : ByteArray) : rxl ((n0, t0) :: (n1, t1) :: (n2, t2) :: r) false false a b = none := by
  rw [rxl]
  (repeat' split) <;> first | rfl | contradiction | exact (rxl_half _ _ _ _ _ _ _).1 | exact (rxl_half _ _ _ _ _ _ _).2
theorem pat_list : (⟨#[112, 97, 116, 116, 101, 114, 110]⟩ : ByteArray).toList = [112, 97, 116, 116, 101, 114, 110] := by decide +kernel
theorem opt_list : (⟨#[111, 112, 116, 105, 111, 110, 115]⟩ : ByteArray).toList = [111, 112, 116, 105, 111, 110, 115] := by decide +kernel
/-- What the law's own words say of two members, and what the program reads. -/
theorem pair_rxl (N T : List ByteArray) (hl : N.length = T.length) : ∃ k a b ok, spec_extPair.f k N T ⟨#[112, 97, 116, 116, 101, 114, 110]⟩ ⟨#[111, 112, 116, 105, 111, 110, 115]⟩ = some (a, b, ok) ∧ (ok = true ∧ rxl (N.zip T) false false ⟨#[]⟩ ⟨#[]⟩ = some (a, b) ∨ ok = false ∧ rxl (N.zip T) false false ⟨#[]⟩ ⟨#[]⟩ = none) := by
  have bad : N.length ≠ 2 → spec_extPair.f 4 N T ⟨#[112, 97, 116, 116, 101, 114, 110]⟩ ⟨#[111, 112, 116, 105, 111, 110, 115]⟩ = some (⟨#[]⟩, ⟨#[]⟩, false) := by
    intro h
    unfold spec_extPair.f
    rw [if_neg (by omega), spec_extPair.j0.eq_2, if_pos rfl]
  match N, T, hl with
  | [], [], _ => exact ⟨4, _, _, _, bad (by simp), .inr ⟨rfl, rfl⟩⟩
  | [n], [t], _ =>
    refine ⟨4, _, _, _, bad (by simp), .inr ⟨rfl, ?_⟩⟩
    simp only [List.zip_cons_cons, List.zip_nil_left, rxl]
    (repeat' split) <;> simp_all
  | n0 :: n1 :: n2 :: ns, t0 :: t1 :: t2 :: ts, _ =>
    refine ⟨4, _, _, _, bad (by simp), .inr ⟨rfl, ?_⟩⟩
    simp only [List.zip_cons_cons]
    exact rxl_long _ _ _ _ _ _ _ _ _
  | [n0, n1], [t0, t1], _ =>
    have r0 : rdOf ByteArray.empty [n0, n1] 0 = n0 := rfl
    have r1 : rdOf ByteArray.empty [n0, n1] 1 = n1 := rfl
    have s0 : rdOf ByteArray.empty [t0, t1] 0 = t0 := rfl
    have s1 : rdOf ByteArray.empty [t0, t1] 1 = t1 := rfl
    have hx : rxl ([n0, n1].zip [t0, t1]) false false ⟨#[]⟩ ⟨#[]⟩ = if n0.toList = [112, 97, 116, 116, 101, 114, 110] ∧ n1.toList = [111, 112, 116, 105, 111, 110, 115] then some (t0, t1) else if n0.toList = [111, 112, 116, 105, 111, 110, 115] ∧ n1.toList = [112, 97, 116, 116, 101, 114, 110] then some (t1, t0) else none := by
      simp only [List.zip_cons_cons, List.zip_nil_left, rxl]
      (repeat' split) <;> simp_all
    have hf : spec_extPair.f 4 [n0, n1] [t0, t1] ⟨#[112, 97, 116, 116, 101, 114, 110]⟩ ⟨#[111, 112, 116, 105, 111, 110, 115]⟩ = if n0.toList = [112, 97, 116, 116, 101, 114, 110] ∧ n1.toList = [111, 112, 116, 105, 111, 110, 115] then some (t0, t1, true) else if n0.toList = [111, 112, 116, 105, 111, 110, 115] ∧ n1.toList = [112, 97, 116, 116, 101, 114, 110] then some (t1, t0, true) else some (⟨#[]⟩, ⟨#[]⟩, false) := by
      unfold spec_extPair.f
      rw [if_pos (by simp), spec_extPair.j0.eq_2, if_neg (by simp), if_pos (by simp)]
      simp only [r0, r1, pat_list, opt_list]
      have j1t : spec_extPair.j1 3 [n0, n1] [t0, t1] ⟨#[112, 97, 116, 116, 101, 114, 110]⟩ ⟨#[111, 112, 116, 105, 111, 110, 115]⟩ true = some (t0, t1, true) := by
        rw [spec_extPair.j1.eq_2, if_pos rfl, if_pos (by simp), if_pos (by simp), s0, s1]
      have j1f : spec_extPair.j1 3 [n0, n1] [t0, t1] ⟨#[112, 97, 116, 116, 101, 114, 110]⟩ ⟨#[111, 112, 116, 105, 111, 110, 115]⟩ false = if n0.toList = [111, 112, 116, 105, 111, 110, 115] ∧ n1.toList = [112, 97, 116, 116, 101, 114, 110] then some (t1, t0, true) else some (⟨#[]⟩, ⟨#[]⟩, false) := by
        rw [spec_extPair.j1.eq_2, if_neg (by decide), if_pos (by simp)]
        simp only [r0, r1, pat_list, opt_list]
        have j2t : spec_extPair.j2 2 [t0, t1] true = some (t1, t0, true) := by
          rw [spec_extPair.j2.eq_2, if_pos rfl, if_pos (by simp), if_pos (by simp), s0, s1]
        have j2f : spec_extPair.j2 2 [t0, t1] false = some (⟨#[]⟩, ⟨#[]⟩, false) := by
          rw [spec_extPair.j2.eq_2, if_neg (by decide)]
        by_cases ho : n0.toList = [111, 112, 116, 105, 111, 110, 115]
        · rw [if_pos ho, if_pos (by simp)]
          by_cases hp : n1.toList = [112, 97, 116, 116, 101, 114, 110]
          · rw [if_pos ⟨ho, hp⟩, (list_of _ _).2 hp]; exact j2t
          · rw [if_neg (fun h => hp h.2), show (n1.toList == [112, 97, 116, 116, 101, 114, 110]) = false by simpa using hp]; exact j2f
        · rw [if_neg ho, if_neg (fun h => ho h.1)]; exact j2f
      by_cases hp : n0.toList = [112, 97, 116, 116, 101, 114, 110]
      · rw [if_pos hp, if_pos (by simp)]
        by_cases ho : n1.toList = [111, 112, 116, 105, 111, 110, 115]
        · rw [if_pos ⟨hp, ho⟩, (list_of _ _).2 ho]; exact j1t
        · rw [if_neg (fun h => ho h.2), show (n1.toList == [111, 112, 116, 105, 111, 110, 115]) = false by simpa using ho]; exact j1f
      · rw [if_neg hp, if_neg (fun h => hp h.1)]; exact j1f
    refine ⟨4, ?_⟩
    rw [hf, hx]
    by_cases h1 : n0.toList = [112, 97, 116, 116, 101, 114, 110] ∧ n1.toList = [111, 112, 116, 105, 111, 110, 115]
    · rw [if_pos h1, if_pos h1]; exact ⟨_, _, _, rfl, .inl ⟨rfl, rfl⟩⟩
    · rw [if_neg h1, if_neg h1]
      by_cases h2 : n0.toList = [111, 112, 116, 105, 111, 110, 115] ∧ n1.toList = [112, 97, 116, 116, 101, 114, 110]
      · rw [if_pos h2, if_pos h2]; exact ⟨_, _, _, rfl, .inl ⟨rfl, rfl⟩⟩
      · rw [if_neg h2, if_neg h2]; exact ⟨_, _, _, rfl, .inr ⟨rfl, rfl⟩⟩
theorem part_ok (x : Option (ByteArray × ByteArray)) (a b : ByteArray) (ok : Bool) (h : ok = true ∧ x = some (a, b) ∨ ok = false ∧ x = none) : laws_extPart.f (rxVal x).1 (rxVal x).2.1 (rxVal x).2.2.1 0 0 0 [] [] (rxVal x).2.2.2 11 a b 0 0 0 [] [] ok = some true := by
  unfold laws_extPart.f
  rcases h with ⟨rfl, rfl⟩ | ⟨rfl, rfl⟩
  · simp [rxVal]
  · simp [rxVal]
theorem one_ok : rxVal (rxl ([(⟨#[112, 97, 116, 116, 101, 114, 110]⟩ : ByteArray), ⟨#[111, 112, 116, 105, 111, 110, 115]⟩].zip [(⟨#[97]⟩ : ByteArray), ⟨#[105]⟩]) false false ⟨#[]⟩ ⟨#[]⟩) = (11, ⟨#[97]⟩, ⟨#[105]⟩, true) := by
  simp only [List.zip_cons_cons, List.zip_nil_left, rxl, pat_list, opt_list]
  rfl

theorem lit2 (W : World) (A0 : Option Addr) (c0 : Nat) (N : List ByteArray) (A1 : Option Addr) (c1 : Nat) (T : List ByteArray) (h0 : Kd.C Kd.string W A0 N.length N) (hc0 : N.length ≤ c0) (h1 : Kd.C Kd.string W A1 T.length T) (hc1 : T.length ≤ c1) : Kd.C (Kd.slice 9 Kd.string) (W.alloc (.cells #[.slice A0 N.length c0, .slice A1 T.length c1] 31)) (some ⟨W.heap.size, 0, none⟩) [N, T].length [N, T] := by
  have hB : Below W.heap.size W (W.alloc (.cells #[.slice A0 N.length c0, .slice A1 T.length c1] 31)) := (Below.refl _ W).alloc (Nat.le_refl _) _
  have hb := blk_new W (.cells #[.slice A0 N.length c0, .slice A1 T.length c1] 31)
  refine ⟨rfl, by simp, fun _ => ⟨_, rfl, fun j p hj => ?_⟩⟩
  match j, hj with
  | 0, hj =>
    obtain rfl : N = p := by simpa using hj
    refine ⟨[.slice A0 N.length c0], rfl, ⟨A0, c0, rfl, hc0, Kd.C_below h0 hB⟩, fun i u hi => ?_⟩
    match i, hi with
    | 0, hi => exact (blk_cell hb 0).trans (by simpa using hi)
  | 1, hj =>
    obtain rfl : T = p := by simpa using hj
    refine ⟨[.slice A1 T.length c1], rfl, ⟨A1, c1, rfl, hc1, Kd.C_below h1 hB⟩, fun i u hi => ?_⟩
    match i, hi with
    | 0, hi => exact (blk_cell hb 1).trans (by simpa using hi)
theorem litS (W : World) (a b : ByteArray) : Kd.C Kd.string (W.alloc (.cells #[.string a, .string b] 9)) (some ⟨W.heap.size, 0, none⟩) [a, b].length [a, b] := by
  have hb := blk_new W (.cells #[.string a, .string b] 9)
  refine Kd.C_of_reads (d := ByteArray.empty) ⟨rfl, by simp, fun _ => ⟨_, rfl, fun j hj => ?_⟩⟩
  match j, hj with
  | 0, _ => exact (blk_cell hb 0).trans rfl
  | 1, _ => exact (blk_cell hb 1).trans rfl
set_option maxHeartbeats 4000000 in
set_option maxRecDepth 100000 in
theorem law_no1 (A0 : Option Addr) (c0 : Nat) (N : List ByteArray) (A1 : Option Addr) (c1 : Nat) (T : List ByteArray) (k : Nat) (w : World) (hr0 : Kd.C Kd.string w A0 N.length N) (hc0 : N.length ≤ c0) (h : laws_zzFits2.f k N = some false) :
    Calls Try.prog 6 #[.slice A0 N.length c0, .slice A1 T.length c1] w fun e w' => e = .returned (.bool true) ∧ Below w.heap.size w w' := by
  have H := Aside0.mk h
  clear h
  go_enter Try.func6, Try.ntmps6
  go_wp2_with (go_at_call 16; refine (laws_zzFits2.calls k A0 c0 N false _ hr0 hc0 H.out).mono ?_; rintro e w1 ⟨rfl, hD⟩; have HB := Aside0.mk hD.below; clear hD)
  go_ret
  exact ⟨rfl, HB.out⟩
set_option maxHeartbeats 4000000 in
set_option maxRecDepth 100000 in
theorem law_no2 (A0 : Option Addr) (c0 : Nat) (N : List ByteArray) (A1 : Option Addr) (c1 : Nat) (T : List ByteArray) (k k2 : Nat) (w : World) (hr0 : Kd.C Kd.string w A0 N.length N) (hc0 : N.length ≤ c0) (hr1 : Kd.C Kd.string w A1 T.length T) (hc1 : T.length ≤ c1) (h : laws_zzFits2.f k N = some true) (h2 : laws_zzFits2.f k2 T = some false) :
    Calls Try.prog 6 #[.slice A0 N.length c0, .slice A1 T.length c1] w fun e w' => e = .returned (.bool true) ∧ Below w.heap.size w w' := by
  have H := Aside0.mk h
  have H2 := Aside0.mk h2
  have HR1 := Aside0.mk hr1
  clear h h2 hr1
  go_enter Try.func6, Try.ntmps6
  go_wp2_with fail
  refine (laws_zzFits2.calls k A0 c0 N true _ hr0 hc0 H.out).mono ?_
  rintro e w1 ⟨rfl, hD⟩
  have HB := Aside0.mk hD.below
  clear hD
  go_wp2_with fail
  refine (laws_zzFits2.calls k2 A1 c1 T false _ (Kd.C_below HR1.out HB.out) hc1 H2.out).mono ?_
  rintro e w2 ⟨rfl, hD⟩
  have HB2 := Aside0.mk (below_step HB.out hD.below)
  clear hD
  go_wp2
  go_ret
  exact ⟨rfl, HB2.out⟩

set_option maxHeartbeats 4000000 in
set_option maxRecDepth 100000 in
theorem law_no3 (A0 : Option Addr) (c0 : Nat) (N : List ByteArray) (A1 : Option Addr) (c1 : Nat) (T : List ByteArray) (k k2 k3 : Nat) (w : World) (hr0 : Kd.C Kd.string w A0 N.length N) (hc0 : N.length ≤ c0) (hr1 : Kd.C Kd.string w A1 T.length T) (hc1 : T.length ≤ c1) (h : laws_zzFits2.f k N = some true) (h2 : laws_zzFits2.f k2 T = some true) (h3 : laws_extPlain.f k3 [N, T] = some false) :
    Calls Try.prog 6 #[.slice A0 N.length c0, .slice A1 T.length c1] w fun e w' => e = .returned (.bool true) ∧ Below w.heap.size w w' := by
  have H := Aside0.mk h
  have H2 := Aside0.mk h2
  have H3 := Aside0.mk h3
  have HR0 := Aside0.mk hr0
  have HR1 := Aside0.mk hr1
  clear h h2 h3 hr0 hr1
  go_enter Try.func6, Try.ntmps6
  go_wp2_with fail
  refine (laws_zzFits2.calls k A0 c0 N true _ HR0.out hc0 H.out).mono ?_
  rintro e w1 ⟨rfl, hD⟩
  have HB := Aside0.mk hD.below
  clear hD
  go_wp2_with fail
  refine (laws_zzFits2.calls k2 A1 c1 T true _ (Kd.C_below HR1.out HB.out) hc1 H2.out).mono ?_
  rintro e w2 ⟨rfl, hD⟩
  have HB2 := Aside0.mk (below_step HB.out hD.below)
  clear hD HB
  go_wp2_with fail
  refine (laws_extPlain.calls k3 (some ⟨w2.heap.size, 0, none⟩) 2 [N, T] false _ (lit2 w2 A0 c0 N A1 c1 T (Kd.C_below HR0.out HB2.out) hc0 (Kd.C_below HR1.out HB2.out) hc1) (Nat.le_refl 2) H3.out).mono ?_
  rintro e w3 ⟨rfl, hD⟩
  have HB3 := Aside0.mk (below_step (below_alloc HB2.out _) hD.below)
  clear hD HB2
  go_wp2
  go_ret
  exact ⟨rfl, HB3.out⟩
set_option maxHeartbeats 4000000 in
set_option maxRecDepth 100000 in
theorem law_no4 (A0 : Option Addr) (c0 : Nat) (N : List ByteArray) (A1 : Option Addr) (c1 : Nat) (T : List ByteArray) (k k2 k3 : Nat) (w : World) (hr0 : Kd.C Kd.string w A0 N.length N) (hc0 : N.length ≤ c0) (hr1 : Kd.C Kd.string w A1 T.length T) (hc1 : T.length ≤ c1) (h : laws_zzFits2.f k N = some true) (h2 : laws_zzFits2.f k2 T = some true) (h3 : laws_extPlain.f k3 [N, T] = some true) (hl : N.length ≠ T.length) :
    Calls Try.prog 6 #[.slice A0 N.length c0, .slice A1 T.length c1] w fun e w' => e = .returned (.bool true) ∧ Below w.heap.size w w' := by
  have H := Aside0.mk h
  have H2 := Aside0.mk h2
  have H3 := Aside0.mk h3
  have HR0 := Aside0.mk hr0
  have HR1 := Aside0.mk hr1
  have hle : ((N.length : Int) != (T.length : Int)) = true := by simp; omega
  clear h h2 h3 hr0 hr1 hl
  go_enter Try.func6, Try.ntmps6
  go_wp2_with fail
  refine (laws_zzFits2.calls k A0 c0 N true _ HR0.out hc0 H.out).mono ?_
  rintro e w1 ⟨rfl, hD⟩
  have HB := Aside0.mk hD.below
  clear hD
  go_wp2_with fail
  refine (laws_zzFits2.calls k2 A1 c1 T true _ (Kd.C_below HR1.out HB.out) hc1 H2.out).mono ?_
  rintro e w2 ⟨rfl, hD⟩
  have HB2 := Aside0.mk (below_step HB.out hD.below)
  clear hD HB
  go_wp2_with fail
  refine (laws_extPlain.calls k3 (some ⟨w2.heap.size, 0, none⟩) 2 [N, T] true _ (lit2 w2 A0 c0 N A1 c1 T (Kd.C_below HR0.out HB2.out) hc0 (Kd.C_below HR1.out HB2.out) hc1) (Nat.le_refl 2) H3.out).mono ?_
  rintro e w3 ⟨rfl, hD⟩
  have HB3 := Aside0.mk (below_step (below_alloc HB2.out _) hD.below)
  clear hD HB2
  go_wp2
  go_ret
  exact ⟨rfl, HB3.out⟩
set_option maxHeartbeats 8000000 in
set_option maxRecDepth 100000 in
theorem law_yes (A0 : Option Addr) (c0 : Nat) (N : List ByteArray) (A1 : Option Addr) (c1 : Nat) (T : List ByteArray) (k k2 k3 k4 : Nat) (a b : ByteArray) (ok : Bool) (w : World) (hr0 : Kd.C Kd.string w A0 N.length N) (hc0 : N.length ≤ c0) (hr1 : Kd.C Kd.string w A1 T.length T) (hc1 : T.length ≤ c1) (h : laws_zzFits2.f k N = some true) (h2 : laws_zzFits2.f k2 T = some true) (h3 : laws_extPlain.f k3 [N, T] = some true) (hl : N.length = T.length) (h6 : N.length ≤ 6) (hs : ∀ s ∈ T, ∃ k b, spec_DocPlain.f k s = some b)
    (h4 : spec_extPair.f k4 N T ⟨#[112, 97, 116, 116, 101, 114, 110]⟩ ⟨#[111, 112, 116, 105, 111, 110, 115]⟩ = some (a, b, ok)) (h5 : ok = true ∧ rxl (N.zip T) false false ⟨#[]⟩ ⟨#[]⟩ = some (a, b) ∨ ok = false ∧ rxl (N.zip T) false false ⟨#[]⟩ ⟨#[]⟩ = none) :
    Calls Try.prog 6 #[.slice A0 N.length c0, .slice A1 T.length c1] w fun e w' => e = .returned (.bool true) ∧ Below w.heap.size w w' := by
  have H := Aside0.mk h
  have H2 := Aside0.mk h2
  have H3 := Aside0.mk h3
  have HR0 := Aside0.mk hr0
  have HR1 := Aside0.mk hr1
  have HRD := Aside0.mk (Kd.reads_of_C (enc := Value.string) (d := ByteArray.empty) (h1 := fun _ => rfl) hr1)
  have H4 := Aside0.mk h4
  have HP := Aside0.mk (part_ok _ a b ok h5)
  have HS := Aside0.mk hs
  have HL := Aside0.mk hl
  have hle : ((N.length : Int) != (T.length : Int)) = false := by simp; omega
  have hT : T.length ≤ 6 := by omega
  clear h h2 h3 h4 h5 hr0 hr1 hl hs
  go_enter Try.func6, Try.ntmps6
  go_wp2_with fail
  refine (laws_zzFits2.calls k A0 c0 N true _ HR0.out hc0 H.out).mono ?_
  rintro e w1 ⟨rfl, hD⟩
  have HB := Aside0.mk hD.below
  clear hD
  go_wp2_with fail
  refine (laws_zzFits2.calls k2 A1 c1 T true _ (Kd.C_below HR1.out HB.out) hc1 H2.out).mono ?_
  rintro e w2 ⟨rfl, hD⟩
  have HB2 := Aside0.mk (below_step HB.out hD.below)
  clear hD HB
  go_wp2_with fail
  refine (laws_extPlain.calls k3 (some ⟨w2.heap.size, 0, none⟩) 2 [N, T] true _ (lit2 w2 A0 c0 N A1 c1 T (Kd.C_below HR0.out HB2.out) hc0 (Kd.C_below HR1.out HB2.out) hc1) (Nat.le_refl 2) H3.out).mono ?_
  rintro e w3 ⟨rfl, hD⟩
  have HB3 := Aside0.mk (below_step (below_alloc HB2.out _) hD.below)
  clear hD HB2
  go_wp2
  go_loopw [35] (fun i wr => ∃ kk : Nat, i = .int .i64 kk ∧ kk ≤ T.length ∧ Aside0 (Below w.heap.size w wr)) (fun i _ => T.length - (Go.RowKit.intOf i).toNat)
  case atStart => exact ⟨0, rfl, Nat.zero_le _, HB3⟩
  case round =>
    obtain ⟨kk, rfl, hk, hB⟩ := hrel
    by_cases hlt : kk < T.length
    · obtain ⟨ad, rfl, hat⟩ := HRD.out.2.2 (by omega)
      have hc := (hB.out.cell (p := ad.add kk) (World.block_lt_of_cell? w _ (hat kk hlt))).trans (hat kk hlt)
      rw [show T.getD kk ByteArray.empty = T[kk] by rw [List.getD_eq_getElem?_getD, List.getElem?_eq_getElem hlt]; rfl] at hc
      obtain ⟨kp, bp, hp⟩ := HS.out T[kk] (List.getElem_mem hlt)
      generalize T[kk] = tk at hc hp
      have HPP := Aside0.mk hp
      clear hat hp
      cases bp with
      | false =>
        go_wp2_with (go_at_call 18; refine (spec_DocPlain.calls kp tk false _ HPP.out).mono ?_; rintro e w4 ⟨rfl, hD⟩; have HB4 := Aside0.mk (below_step hB.out hD.below); clear hD)
        go_ret
        exact ⟨rfl, HB4.out⟩
      | true =>
        go_wp2_with (go_at_call 18; refine (spec_DocPlain.calls kp tk true _ HPP.out).mono ?_; rintro e w4 ⟨rfl, hD⟩; have HB4 := Aside0.mk (below_step hB.out hD.below); clear hD)
        go_roundw
        case rel => exact ⟨kk + 1, by go_num, by omega, HB4⟩
        case measure => simp [Go.RowKit.intOf]; omega
    · obtain rfl : kk = T.length := by omega
      go_wp2_with fail
      refine (spec_ExtRegexOf.any k4 A0 c0 N A1 c1 T a b ok _ (Kd.C_below HR0.out hB.out) hc0 (Kd.C_below HR1.out hB.out) hc1 H4.out).mono ?_
      rintro e w5 ⟨rfl, hD⟩
      have HB5 := Aside0.mk (below_step hB.out hD)
      clear hD hB
      go_wp2_with fail
      refine (ext_any A0 c0 A1 c1 N T _ HL.out (by omega) (Kd.C_below HR0.out (below_alloc HB5.out _)) (Kd.C_below HR1.out (below_alloc HB5.out _))).mono ?_
      rintro e w6 ⟨rfl, hD⟩
      have hz := blk_below (blk_new w5 _) hD
      have HB6 := Aside0.mk (below_step (below_alloc HB5.out _) hD)
      have hlt6 : w5.heap.size < w6.heap.size := by have := hD.size; simp at this; omega
      clear hD
      have HZ := Aside0.mk hz
      clear hz
      unfold rxRet
      generalize rxVal (rxl (N.zip T) false false ⟨#[]⟩ ⟨#[]⟩) = rv at HP ⊢
      obtain ⟨ra, rb, rc, rok⟩ := rv
      go_wp2_with fail
      have l0 := litS (w6.alloc (.cells #[.int .i64 ra, .string rb, .string rc, .int .i64 0, .int .u64 0, .int .u64 0, .slice none 0 0, .slice none 0 0] 37)) ⟨#[112, 97, 116, 116, 101, 114, 110]⟩ ⟨#[111, 112, 116, 105, 111, 110, 115]⟩
      have l1 := litS ((w6.alloc (.cells #[.int .i64 ra, .string rb, .string rc, .int .i64 0, .int .u64 0, .int .u64 0, .slice none 0 0, .slice none 0 0] 37)).alloc (.cells #[.string ⟨#[112, 97, 116, 116, 101, 114, 110]⟩, .string ⟨#[111, 112, 116, 105, 111, 110, 115]⟩] 9)) ⟨#[97]⟩ ⟨#[105]⟩
      simp only [World.size_alloc] at l0 l1
      have L0 := Aside0.mk (Kd.C_alloc l0 (.cells #[.string ⟨#[97]⟩, .string ⟨#[105]⟩] 9))
      have L1 := Aside0.mk l1
      clear l0 l1
      refine (ext_any _ 2 _ 2 [⟨#[112, 97, 116, 116, 101, 114, 110]⟩, ⟨#[111, 112, 116, 105, 111, 110, 115]⟩] [⟨#[97]⟩, ⟨#[105]⟩] _ rfl (by show 2 ≤ 1000; omega) L0.out L1.out).mono ?_
      rintro e w7 ⟨rfl, hD⟩
      have hz6 := blk_below (blk_alloc (blk_alloc (blk_new w6 _) _) _) hD
      have hz5 := blk_below (blk_alloc (blk_alloc (blk_alloc HZ.out _) _) _) hD
      have hlt7 : w6.heap.size < w7.heap.size := by have := hD.size; simp at this; omega
      have hn5 : (w5.heap.size = w7.heap.size) = False := eq_false (by omega)
      have hn6 : (w6.heap.size = w7.heap.size) = False := eq_false (by omega)
      have HB7 := Aside0.mk (below_step (below_alloc (below_alloc (below_alloc HB6.out _) _) _) hD)
      clear hD
      have x0 := fun o => (blk_cell (blk_alloc hz5 o) 0).trans rfl
      have y0 := fun o => (blk_cell (blk_alloc hz6 o) 0).trans rfl
      have x1 := fun o => (blk_cell (blk_alloc hz5 o) 1).trans rfl
      have y1 := fun o => (blk_cell (blk_alloc hz6 o) 1).trans rfl
      have x2 := fun o => (blk_cell (blk_alloc hz5 o) 2).trans rfl
      have y2 := fun o => (blk_cell (blk_alloc hz6 o) 2).trans rfl
      have x3 := fun o => (blk_cell (blk_alloc hz5 o) 3).trans rfl
      have y3 := fun o => (blk_cell (blk_alloc hz6 o) 3).trans rfl
      have x4 := fun o => (blk_cell (blk_alloc hz5 o) 4).trans rfl
      have y4 := fun o => (blk_cell (blk_alloc hz6 o) 4).trans rfl
      have x5 := fun o => (blk_cell (blk_alloc hz5 o) 5).trans rfl
      have y5 := fun o => (blk_cell (blk_alloc hz6 o) 5).trans rfl
      have x6 := fun o => (blk_cell (blk_alloc hz5 o) 6).trans rfl
      have y6 := fun o => (blk_cell (blk_alloc hz6 o) 6).trans rfl
      have x7 := fun o => (blk_cell (blk_alloc hz5 o) 7).trans rfl
      have y7 := fun o => (blk_cell (blk_alloc hz6 o) 7).trans rfl
      clear hz5 hz6
      unfold rxRet
      rw [one_ok]
      go_wp2_with fail
      have cE : ∀ {α : Type} (d : Kd α) (W : World), d.C W none ([] : List α).length [] := fun d W => ⟨rfl, Nat.zero_le _, fun h => absurd h (Nat.lt_irrefl _)⟩
      refine (laws_extPart.calls ra rb rc 0 0 0 none 0 [] none 0 [] rok 11 a b 0 0 0 none 0 [] none 0 [] ok true _ (cE _ _) (Nat.le_refl 0) (cE _ _) (Nat.le_refl 0) (cE _ _) (Nat.le_refl 0) (cE _ _) (Nat.le_refl 0) HP.out).mono ?_
      rintro e w8 ⟨rfl, hD⟩
      have HB8 := Aside0.mk (below_step (below_alloc HB7.out _) hD)
      clear hD
      go_wp2
      go_ret
      exact ⟨rfl, HB8.out⟩
theorem law (A0 : Option Addr) (c0 : Nat) (N : List ByteArray) (A1 : Option Addr) (c1 : Nat) (T : List ByteArray) (w : World) (hr0 : Kd.C Kd.string w A0 N.length N) (hc0 : N.length ≤ c0) (hr1 : Kd.C Kd.string w A1 T.length T) (hc1 : T.length ≤ c1) (hN : N.length ≤ 140737488351232) (hT : T.length ≤ 140737488351232) (hs : ∀ s ∈ T, s.size ≤ 140737488351232) :
    Calls Try.prog 6 #[.slice A0 N.length c0, .slice A1 T.length c1] w fun e w' => e = .returned (.bool true) ∧ Below w.heap.size w w' := by
  obtain ⟨k, b, h⟩ := fits_some N (by omega)
  cases b with
  | false => exact law_no1 A0 c0 N A1 c1 T k w hr0 hc0 h
  | true =>
    obtain ⟨k2, b2, h2⟩ := fits_some T (by omega)
    cases b2 with
    | false => exact law_no2 A0 c0 N A1 c1 T k k2 w hr0 hc0 hr1 hc1 h h2
    | true =>
      obtain ⟨k3, b3, h3, hb3⟩ := ext_some N T
      cases b3 with
      | false => exact law_no3 A0 c0 N A1 c1 T k k2 k3 w hr0 hc0 hr1 hc1 h h2 h3
      | true =>
        by_cases hl : N.length = T.length
        · obtain ⟨k4, a, b, ok, h4, h5⟩ := pair_rxl N T hl
          exact law_yes A0 c0 N A1 c1 T k k2 k3 k4 a b ok w hr0 hc0 hr1 hc1 h h2 h3 hl (hb3 rfl).1 (fun s hs' => plain_some s (by have := hs s hs'; omega)) h4 h5
        · exact law_no4 A0 c0 N A1 c1 T k k2 k3 w hr0 hc0 hr1 hc1 h h2 h3 hl

end Go.Proofs.Ythlpmeiihchdjaa.Rxl
