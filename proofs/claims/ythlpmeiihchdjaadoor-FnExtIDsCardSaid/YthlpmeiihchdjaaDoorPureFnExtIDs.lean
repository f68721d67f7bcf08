/- FnExtIDs: the identifier that 24 hexadecimal digits spell is the same by hex.Decode and by the law's own digits. Conditions: none beyond the statement's. -/
import Derived.Test.YthlpmeiihchdjaaDoorPYx1
import Derived.Test.YthlpmeiihchdjaaDoorPL
namespace Go.Proofs.YthlpmeiihchdjaaDoor.Pure
open Go.RowKit Go.Proofs.YthlpmeiihchdjaaDoor.PY Go.Proofs.YthlpmeiihchdjaaDoorW.PrintWords Go.Proofs.YthlpmeiihchdjaaDoorW.PrintLast
open Go.Lib Oid PL

theorem up {α β : Type} {f : Nat → α → Option β} (hm : ∀ a k, LeO (f k a) (f (k + 1) a)) (a : α) {k : Nat} {r : β} (h : f k a = some r) : ∀ j, f (k + j) a = some r
  | 0 => h
  | j + 1 => hm a (k + j) r (up hm a h j)
theorem nib (x : Int) (h0 : 0 ≤ x) (h1 : x < 256) (k : Nat) : spec_extNibble.f (k + 4) x = some (if Hx.v (UInt8.ofNat x.toNat) ≤ 15 then ((Hx.v (UInt8.ofNat x.toNat) : Int), true) else (0, false)) := by
  have key : ∀ c : Fin 256, spec_extNibble.f 4 (c.val : Int) = some (if Hx.v (UInt8.ofNat c.val) ≤ 15 then ((Hx.v (UInt8.ofNat c.val) : Int), true) else (0, false)) := by decide +kernel
  obtain ⟨n, rfl⟩ : ∃ n : Nat, x = (n : Int) := ⟨x.toNat, by omega⟩
  have := up (f := spec_extNibble.f) spec_extNibble.mono (n : Int) (key ⟨n, by omega⟩) k
  rw [Nat.add_comm]
  simpa using this
theorem join (a b : Nat) (ha : a ≤ 15) (hb : b ≤ 15) : (Go.bits .or .i64 (wrap64 ((a : Int) * 16)) (b : Int)) % 256 = ((UInt8.ofNat (a * 16 + b)).toNat : Int) := by
  have key : ∀ a b : Fin 16, (Go.bits .or .i64 (wrap64 ((a.val : Int) * 16)) (b.val : Int)) % 256 = ((UInt8.ofNat (a.val * 16 + b.val)).toNat : Int) := by decide +kernel
  exact key ⟨a, by omega⟩ ⟨b, by omega⟩
theorem bt_at (s : ByteArray) (i : Nat) (h : i < s.size) : bt s (i : Int) = ((s.data.toList[i]'(by simpa using h)).toNat : Int) := by
  rw [PL.bt_get s _ (by omega) (by omega), Int.toNat_natCast, PL.get_data s i h]
def outOf : List UInt8 × Hx.Out → List Int → List Int × Bool
  | (D, .ok), acc => (acc ++ D.map (fun b => (b.toNat : Int)), true)
  | _, _ => ([], false)
theorem loop (s : ByteArray) (h24 : s.size = 24) : ∀ (m k : Nat) (acc : List Int), m ≤ 12 → acc.length + m ≤ 12 → spec_ExtIDOf.l0 (2 * m + k + 6) s acc ((24 - 2 * m : Nat) : Int) = some (outOf (Hx.decode (s.data.toList.drop (24 - 2 * m))) acc)
  | 0, k, acc, _, _ => by
    have e : s.data.toList.drop (24 - 2 * 0) = [] := List.drop_eq_nil_of_le (by rw [Array.length_toList]; exact Nat.le_of_eq h24)
    rw [e, Hx.decode_nil]
    rw [show 2 * 0 + k + 6 = (k + 5) + 1 by omega, spec_ExtIDOf.l0, if_neg (by decide)]
    simp [outOf]
  | m + 1, k, acc, hm, hacc => by
    obtain ⟨i, hi⟩ : ∃ i, i = 24 - 2 * (m + 1) := ⟨_, rfl⟩
    have hl : s.data.toList.length = 24 := by rw [Array.length_toList]; exact h24
    have hi1 : i < s.data.toList.length := by omega
    have hi2 : i + 1 < s.data.toList.length := by omega
    have hd := Hx.drop2 s.data.toList (i / 2) _ _ (by rw [show 2 * (i / 2) = i by omega]; exact List.getElem?_eq_getElem hi1) (by rw [show 2 * (i / 2) = i by omega]; exact List.getElem?_eq_getElem hi2)
    rw [show 2 * (i / 2) = i by omega, show 2 * (i / 2 + 1) = 24 - 2 * m by omega] at hd
    have w1 : wrap64 ((i : Int) + 1) = ((i + 1 : Nat) : Int) := by rw [wrap_id (by omega) (by omega)]; rfl
    have w2 : wrap64 ((i : Int) + 2) = ((24 - 2 * m : Nat) : Int) := by rw [wrap_id (by omega) (by omega)]; omega
    have ih := loop s h24 m k
    generalize hp : s.data.toList[i] = p at hd
    generalize hq : s.data.toList[i + 1] = q at hd
    have bp : bt s (i : Int) = (p.toNat : Int) := by rw [bt_at s i (by rw [h24]; omega), hp]
    have bq : bt s ((i + 1 : Nat) : Int) = (q.toNat : Int) := by rw [bt_at s (i + 1) (by rw [h24]; omega), hq]
    rw [← hi, hd, Hx.decode_two]
    have np := nib p.toNat (by omega) (by have := p.toNat_lt; omega) (2 * m + k + 3)
    have nq := nib q.toNat (by omega) (by have := q.toNat_lt; omega) (2 * m + k + 3)
    rw [Int.toNat_natCast, UInt8.ofNat_toNat, show 2 * m + k + 3 + 4 = (2 * m + k + 6) + 1 by omega] at np nq
    rw [show 2 * (m + 1) + k + 6 = ((2 * m + k + 6) + 1) + 1 by omega, spec_ExtIDOf.l0, if_pos (by omega), if_pos (by omega), if_pos (by rw [h24]; omega), bp, np, Option.bind_some, w1, if_pos (by omega), if_pos (by rw [h24]; omega), bq, nq, Option.bind_some]
    by_cases c1 : Hx.v p ≤ 15
    · rw [if_pos c1, if_neg (show ¬ 15 < Hx.v p by omega)]
      simp only [if_true]
      by_cases c2 : Hx.v q ≤ 15
      · rw [if_pos c2, if_neg (show ¬ 15 < Hx.v q by omega)]
        simp only [Bool.not_true, spec_ExtIDOf.j1]
        rw [if_neg (by simp), if_pos (by omega), join _ _ c1 c2, w2, ih _ (by omega) (by simp; omega)]
        generalize Hx.decode (List.drop (24 - 2 * m) s.data.toList) = D
        obtain ⟨D1, D2⟩ := D
        cases D2 <;> simp [outOf]
      · rw [if_neg c2, if_pos (show 15 < Hx.v q by omega)]
        simp [spec_ExtIDOf.j1, outOf]
    · rw [if_neg c1, if_pos (show 15 < Hx.v p by omega)]
      simp [spec_ExtIDOf.j1, outOf]
theorem decode_full : ∀ l : List UInt8, (Hx.decode l).2 = .ok → (Hx.decode l).1.length * 2 = l.length
  | [], _ => by rw [Hx.decode_nil]; rfl
  | [c], h => by
    rw [Hx.decode_one] at h
    split at h <;> cases h
  | p :: q :: t, h => by
    rw [Hx.decode_two] at h ⊢
    by_cases c1 : 15 < Hx.v p
    · rw [if_pos c1] at h; cases h
    · rw [if_neg c1] at h ⊢
      by_cases c2 : 15 < Hx.v q
      · rw [if_pos c2] at h; cases h
      · rw [if_neg c2] at h ⊢
        have := decode_full t h
        simp only [List.length_cons]
        omega
theorem twelve (D : List UInt8) (h : D.length = 12) : (List.range 12).map (fun i => ((D[i]?.getD 0).toNat : Int)) = D.map (fun b => (b.toNat : Int)) := by
  refine List.ext_getElem (by simp [h]) fun i h1 h2 => ?_
  have hi : i < D.length := by simpa using h2
  simp [List.getElem?_eq_getElem hi]
theorem ofID (s : ByteArray) : ∃ k w ok, spec_ExtIDOf.f k s = some (w, ok) ∧ idGood s.data.toList = ok ∧ (ok = true → idBytes s.data.toList = w) := by
  by_cases h24 : s.size = 24
  · have hl : s.data.toList.length = 24 := by rw [Array.length_toList]; exact h24
    have h := loop s h24 12 0 [] (Nat.le_refl _) (by simp)
    have hf := decode_full s.data.toList
    rw [show 24 - 2 * 12 = 0 by omega, List.drop_zero] at h
    refine ⟨2 * 12 + 0 + 6, (outOf (Hx.decode s.data.toList) []).1, (outOf (Hx.decode s.data.toList) []).2, ?_, ?_, ?_⟩
    · unfold spec_ExtIDOf.f
      rw [if_pos (by omega)]
      exact h
    · unfold idGood
      rw [if_pos hl]
      generalize Hx.decode s.data.toList = D
      obtain ⟨D1, D2⟩ := D
      cases D2 <;> rfl
    · unfold idBytes
      rw [if_pos hl]
      generalize Hx.decode s.data.toList = D at hf
      obtain ⟨D1, D2⟩ := D
      cases D2 with
      | ok => intro _; have := hf rfl; simp only [outOf, List.nil_append]; exact twelve D1 (by simp only at this; omega)
      | bad c => intro h; cases h
      | odd => intro h; cases h
  · have hl : s.data.toList.length ≠ 24 := by rw [Array.length_toList]; exact h24
    refine ⟨0, [], false, ?_, ?_, fun h => by cases h⟩
    · unfold spec_ExtIDOf.f
      rw [if_neg (by omega)]
    · unfold idGood
      rw [if_neg hl]
theorem one : idGood (⟨#[48, 49, 50, 51, 52, 53, 54, 55, 56, 57, 97, 98, 99, 100, 101, 102, 65, 66, 67, 68, 69, 70, 48, 48]⟩ : ByteArray).data.toList = true := by decide +kernel
theorem FnExtIDs : laws_FnExtIDs.Pure := by
  intro s hs
  obtain ⟨k, w, ok, hf, hg, hb⟩ := ofID s
  refine ⟨k, ?_⟩
  unfold laws_FnExtIDs.f
  by_cases c1 : (s.size : Int) > 2147483647
  · rw [if_pos c1]
  rw [if_neg c1]
  by_cases c2 : (s.size : Int) > 300
  · rw [if_pos c2]
  rw [if_neg c2, hf]
  unfold impl_ExtID.f
  rw [Option.bind_some, Option.bind_some, Option.bind_some]
  simp only []
  rw [if_pos one, hg]
  cases ok with
  | false => rfl
  | true => rw [hb rfl]; simp

end Go.Proofs.YthlpmeiihchdjaaDoor.Pure
