/- Plain laws on the told functions of this seat, without memory. Conditions: as each theorem states them. -/
import Derived.Test.YtbfhpjkahobgnaaGreatDoorProg
import Derived.Test.YtbfhpjkahobgnaaGreatDoorHW
import Derived.Below
import Derived.Deep.Draws
import Derived.OwnWalk
import Derived.Tactics
import Derived.WalkKit
import Derived.KernelRfl
import Derived.RowKit3
import Derived.Deep.LoopGhost
import Derived.Deep.QuietTactic
import Derived.BigQuiet
import Derived.WideLaws
import Derived.Deep.DeepCutAuto
import Derived.Deep.CutBlock
import Derived.Laws.Rows
import Derived.Outline
import Derived.StillTailTactics
import Derived.Deep.RegionHeld3
import Derived.Test.YtbfhpjkahobgnaaGreatDoorAi
namespace Go.Proofs.YtbfhpjkahobgnaaGreatDoor.PIx.VT
open Go.RowKit Go.Proofs.YtbfhpjkahobgnaaGreatDoorW.PrintWords Go.Proofs.YtbfhpjkahobgnaaGreatDoorW.PrintLast Go.Proofs.YtbfhpjkahobgnaaGreatDoorW.PrintMore
set_option linter.unusedVariables false
set_option linter.unusedSimpArgs false
theorem rd0 (y : Int) (r : List Int) : rd (y :: r) 0 = y := rfl
theorem wy {y : Int} (h : (Lit.int .u8 y).wf = true) : wrap64 y = y := by have := PL.wf_u8 h; exact w64 (by omega) (by omega)
/-- The search of an element's name: no byte 0. -/
theorem scan_none (l : List Int) (hl : l.length ≤ 6000) (x5 : Int) : ∀ (r pre : List Int), l = pre ++ r → (∀ x ∈ r, x ≠ 0) → Ev (fun k => bsoncore_ReadElement.l0 k l x5 (pre.length : Int)) (([] : List Int), l, false) := by
  intro r
  induction r with
  | nil =>
    intro pre he _
    have hlen : l.length = pre.length := by rw [he]; simp
    exact Ev.step (fun k => by rw [bsoncore_ReadElement.l0, if_neg (by omega)]) (Ev.step (fun k => by rw [bsoncore_ReadElement.j1, if_neg (by decide), if_pos (by omega)]) (Ev.now _))
  | cons y r ih =>
    intro pre he h
    have hlen : l.length = pre.length + (r.length + 1) := by rw [he]; simp
    have hx : rd l (pre.length : Int) = y := by rw [he]; exact rd_mid pre r y
    have h0 : (y != 0) = true := bne_iff_ne.mpr (h y (by simp))
    have e1 : wrap64 ((pre.length : Int) + 1) = (((pre ++ [y]).length : Nat) : Int) := by rw [w64 (by omega) (by omega)]; simp
    exact Ev.step (fun k => by rw [bsoncore_ReadElement.l0, if_pos (by omega), if_pos (by omega), hx, h0]) (Ev.step (fun k => by rw [bsoncore_ReadElement.j1, if_pos rfl, e1]) (ih (pre ++ [y]) (by rw [he]; simp) (fun x hx => h x (List.mem_cons_of_mem _ hx))))
/-- .. and up to the first byte 0. -/
theorem scan_at (l : List Int) (hl : l.length ≤ 6000) (x5 : Int) (t : List Int) (R : List Int × List Int × Bool) : ∀ (a pre : List Int), l = pre ++ (a ++ 0 :: t) → (∀ x ∈ a, x ≠ 0) → ∀ p : Int, p = (pre.length : Int) + (a.length : Int) → Ev (fun k => bsoncore_ReadElement.j1 k l x5 p false) R → Ev (fun k => bsoncore_ReadElement.l0 k l x5 (pre.length : Int)) R := by
  intro a
  induction a with
  | nil =>
    intro pre he _ p hp h
    have hlen : l.length = pre.length + (t.length + 1) := by rw [he]; simp
    have hx : rd l (pre.length : Int) = 0 := by rw [he]; exact rd_mid pre t 0
    have hp : p = (pre.length : Int) := by rw [hp]; simp
    subst hp
    exact Ev.step (fun k => by rw [bsoncore_ReadElement.l0, if_pos (by omega), if_pos (by omega), hx]; rfl) h
  | cons y a ih =>
    intro pre he h p hp hR
    have hlen : l.length = pre.length + (a.length + 1 + (t.length + 1)) := by rw [he]; simp only [List.length_append, List.length_cons]
    have hx : rd l (pre.length : Int) = y := by rw [he]; exact rd_mid pre (a ++ 0 :: t) y
    have h0 : (y != 0) = true := bne_iff_ne.mpr (h y (by simp))
    have e1 : wrap64 ((pre.length : Int) + 1) = (((pre ++ [y]).length : Nat) : Int) := by rw [w64 (by omega) (by omega)]; simp
    exact Ev.step (fun k => by rw [bsoncore_ReadElement.l0, if_pos (by omega), if_pos (by omega), hx, h0]) (Ev.step (fun k => by rw [bsoncore_ReadElement.j1, if_pos rfl, e1]) (ih (pre ++ [y]) (by rw [he]; simp) (fun x hx => h x (List.mem_cons_of_mem _ hx)) p (by rw [hp]; simp only [List.length_append, List.length_cons, List.length_nil]; omega) hR))
/-- What is made of the length of an element's value, behind n bytes. -/
def reDone (L : List Int) (n : Nat) (bt : Int × Bool) : Option (List Int × List Int × Bool) := if bt.2 = true then (if (wrap64 ((n : Int) + (wrap64 (bt.1)))) > (L.length : Int) then (some (([] : List Int), L, false)) else (if 0 ≤ (wrap64 ((n : Int) + (wrap64 (bt.1)))) then (if (wrap64 ((n : Int) + (wrap64 (bt.1)))) ≤ (L.length : Int) then (some ((L.take ((wrap64 ((n : Int) + (wrap64 (bt.1)))) : Int).toNat), (L.drop ((wrap64 ((n : Int) + (wrap64 (bt.1)))) : Int).toNat), true)) else (none)) else (none))) else (some (([] : List Int), L, false))
theorem reDone_no (L : List Int) (n : Nat) (m : Int) : reDone L n (m, false) = some (([] : List Int), L, false) := by unfold reDone; dsimp only; rw [if_neg (by decide)]
theorem reDone_far (L : List Int) (n : Nat) (m x : Int) (h : wrap64 ((n : Int) + wrap64 m) = x) (hx : x > (L.length : Int)) : reDone L n (m, true) = some (([] : List Int), L, false) := by
  unfold reDone
  dsimp only
  rw [if_pos rfl, h, if_pos hx]
theorem reDone_at (L : List Int) (n : Nat) (m : Int) (x : Nat) (h : wrap64 ((n : Int) + wrap64 m) = (x : Int)) (hx : x ≤ L.length) : reDone L n (m, true) = some (L.take x, L.drop x, true) := by
  unfold reDone
  dsimp only
  rw [if_pos rfl, h, if_neg (by omega), if_pos (by omega), if_pos (by omega), Int.toNat_natCast]
/-- What the search of the first element's name leads to. -/
def dfDone (L : List Int) (k : Nat) (bt124 : ByteArray × Int × Bool) : Option (Int × Bool) := (if bt124.2.2 = true then (if 0 < (L.length : Int) then (if 0 ≤ (wrap64 (1 + bt124.2.1)) then (if (wrap64 (1 + bt124.2.1)) ≤ (L.length : Int) then ((spec_DocSpan.f k (wrap64 (rd L 0)) (L.drop ((wrap64 (1 + bt124.2.1)) : Int).toNat)).bind fun bt129 => (some (wrap64 ((wrap64 (1 + bt124.2.1)) + bt129.1), bt129.2))) else (none)) else (none)) else (none)) else (some (0, false)))
theorem df_eq (y : Int) (r : List Int) (k : Nat) : spec_DocFirst.f k (y :: r) = (spec_DocName.f k r).bind (dfDone (y :: r) k) := by
  have hlen : (y :: r).length = r.length + 1 := rfl
  rw [spec_DocFirst.f, if_neg (by omega), if_pos (by omega), List.drop_one, List.tail_cons]
  rfl
theorem dfDone_no (L : List Int) (k : Nat) (nm : ByteArray) (n : Int) : dfDone L k (nm, n, false) = some (0, false) := by unfold dfDone; dsimp only; rw [if_neg (by decide)]
theorem dfDone_at (L t : List Int) (k : Nat) (nm : ByteArray) (n y : Int) (x : Nat) (h : wrap64 (1 + n) = (x : Int)) (h0 : 0 < L.length) (hx : x ≤ L.length) (hd : L.drop x = t) (hy : wrap64 (rd L 0) = y) : dfDone L k (nm, n, true) = (spec_DocSpan.f k y t).bind fun bt129 => some (wrap64 ((x : Int) + bt129.1), bt129.2) := by
  unfold dfDone
  dsimp only
  rw [if_pos rfl, h, if_pos (by omega), if_pos (by omega), if_pos (by omega), Int.toNat_natCast, hd, hy]
theorem re_eq (y : Int) (r : List Int) (k : Nat) : bsoncore_ReadElement.f k (y :: r) = bsoncore_ReadElement.l0 k (y :: r) y 1 := by
  have hlen : (y :: r).length = r.length + 1 := rfl
  rw [bsoncore_ReadElement.f, if_neg (by omega), if_pos (by omega), rd0]
theorem j1_eq (L t : List Int) (y p : Int) (x : Nat) (k : Nat) (hp : p < (L.length : Int)) (h : wrap64 (p + 1) = (x : Int)) (hx : x ≤ L.length) (hd : L.drop x = t) : bsoncore_ReadElement.j1 (k + 1) L y p false = (bsoncore_valueLength.f k t y).bind (reDone L x) := by
  rw [bsoncore_ReadElement.j1, if_neg (by decide), if_neg (by omega), h, if_pos (by omega), if_pos (by omega), Int.toNat_natCast, hd]
  rfl
/-- The element at the head of bytes, by both. -/
theorem first_ev (l : List Int) (hl : l.length ≤ 6000) (hw : ∀ x, x ∈ l → (Lit.int .u8 x).wf = true) : (∃ n, Ev (fun k => spec_DocFirst.f k l) (n, false) ∧ Ev (fun k => bsoncore_ReadElement.f k l) (([] : List Int), l, false)) ∨ ∃ (y : Int) (a t : List Int) (m : Nat), l = y :: (a ++ 0 :: t) ∧ (∀ x ∈ a, x ≠ 0) ∧ m ≤ t.length ∧ Ev (fun q => bsoncore_valueLength.f q t y) ((m : Int), true) ∧ Ev (fun k => spec_DocFirst.f k l) (((a.length + 2 + m : Nat) : Int), true) ∧ Ev (fun k => bsoncore_ReadElement.f k l) (l.take (a.length + 2 + m), l.drop (a.length + 2 + m), true) := by
  match l, hl, hw with
  | [], _, _ => exact Or.inl ⟨0, Ev.congr (fun k => by rw [spec_DocFirst.f, if_pos (by rfl)]) (Ev.now _), Ev.congr (fun k => by rw [bsoncore_ReadElement.f, if_pos (by decide)]) (Ev.now _)⟩
  | y :: r, hl, hw =>
    have hlen : (y :: r).length = r.length + 1 := rfl
    have hwr : ∀ x, x ∈ r → (Lit.int .u8 x).wf = true := fun x hx => hw x (List.mem_cons_of_mem _ hx)
    have hy := wy (hw y (by simp))
    rcases split0 r with h | ⟨a, t, hr, h⟩
    · exact Or.inl ⟨0, Ev.congr (df_eq y r) (Ev.bind (name_none r (by omega) hwr h) (Ev.congr (fun k => dfDone_no _ _ _ _) (Ev.now _))), Ev.congr (re_eq y r) (scan_none (y :: r) hl y r [y] rfl h)⟩
    · have hlr : r.length = a.length + (t.length + 1) := by rw [hr]; simp
      have hwt : ∀ x, x ∈ t → (Lit.int .u8 x).wf = true := fun x hx => hwr x (by rw [hr]; simp [hx])
      have hd : (y :: r).drop (a.length + 2) = t := by rw [hr, show a.length + 2 = (a.length + 1) + 1 from rfl, List.drop_succ_cons]; simp
      obtain ⟨N, hN⟩ : ∃ N, N = a.length + 2 := ⟨_, rfl⟩
      rw [← hN] at hd
      have e2 : wrap64 (1 + ((a.length + 1 : Nat) : Int)) = (N : Int) := by rw [w64 (by omega) (by omega)]; omega
      have e1 : wrap64 (((a.length + 1 : Nat) : Int) + 1) = (N : Int) := by rw [w64 (by omega) (by omega)]; omega
      obtain ⟨m, b, w, s, ev1, ev2, hb, hs, hsw⟩ := span_val y t (by omega) hwt
      have evF : ∀ (W : Int), wrap64 ((N : Int) + w) = W → Ev (fun k => spec_DocFirst.f k (y :: r)) (W, s) := fun W hW => Ev.congr (df_eq y r) (Ev.bind (name_at r a t (by omega) hwr hr h) (Ev.congr (fun k => dfDone_at (y :: r) t k _ _ y N e2 (by omega) (by omega) hd hy) (Ev.bind ev2 (f := fun _ bt129 => some (wrap64 ((N : Int) + bt129.1), bt129.2)) (Ev.congr (fun k => by dsimp only; rw [hW]) (Ev.now _)))))
      have evR : ∀ (R : List Int × List Int × Bool), reDone (y :: r) N (m, b) = some R → Ev (fun k => bsoncore_ReadElement.f k (y :: r)) R := fun R hR => Ev.congr (re_eq y r) (scan_at (y :: r) hl y t R a [y] (by rw [hr]; rfl) h ((a.length + 1 : Nat) : Int) (by simp only [List.length_cons, List.length_nil]; omega) (Ev.step (fun k => j1_eq (y :: r) t y _ N k (by omega) e1 (by omega) hd) (Ev.bind ev1 (f := fun _ bt => reDone (y :: r) N bt) (Ev.congr (fun k => hR) (Ev.now _)))))
      clear e1 e2
      cases b with
      | false =>
        have hs : s = false := by rw [hs]; rfl
        subst hs
        exact Or.inl ⟨_, evF _ rfl, evR _ (reDone_no _ _ _)⟩
      | true =>
        obtain ⟨m0, m1⟩ := hb rfl
        obtain ⟨M, rfl⟩ := Int.eq_ofNat_of_zero_le m0
        have eN : (N : Int) + (M : Int) = ((N + M : Nat) : Int) := by omega
        have e4 : wrap64 ((N : Int) + (M : Int)) = ((N + M : Nat) : Int) := (w64 (by omega) (by omega)).trans eN
        have e3 : wrap64 ((N : Int) + wrap64 (M : Int)) = ((N + M : Nat) : Int) := by rw [show wrap64 (M : Int) = (M : Int) from w64 (by clear e4; omega) (by clear e4; omega)]; exact e4
        by_cases hm : (M : Int) ≤ (t.length : Int)
        · have hs : s = true := by rw [hs, decide_eq_true hm]; rfl
          subst hs
          have hw' := hsw rfl
          subst hw'
          have f1 : Ev (fun k => spec_DocFirst.f k (y :: r)) (((N + M : Nat) : Int), true) := evF ((N + M : Nat) : Int) e4
          have f2 : Ev (fun k => bsoncore_ReadElement.f k (y :: r)) ((y :: r).take (N + M), (y :: r).drop (N + M), true) := evR _ (reDone_at (y :: r) N (M : Int) (N + M) e3 (by clear e3 e4; omega))
          clear evF evR e3 e4 hd
          subst hN
          exact Or.inr ⟨y, a, t, M, by rw [hr], h, by omega, ev1, f1, f2⟩
        · have hs : s = false := by rw [hs, decide_eq_false hm]; rfl
          subst hs
          exact Or.inl ⟨_, evF _ rfl, evR _ (reDone_far _ _ _ _ e3 (by clear e3 e4; omega))⟩

end Go.Proofs.YtbfhpjkahobgnaaGreatDoor.PIx.VT
