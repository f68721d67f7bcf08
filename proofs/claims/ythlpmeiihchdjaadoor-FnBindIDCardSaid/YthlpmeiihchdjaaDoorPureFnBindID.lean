/- FnBindID: the identifier that a text spells is the same by UnmarshalText and by the law's own digits. Conditions: none beyond the statement's. -/
import Derived.Test.YthlpmeiihchdjaaDoorPBx2
import Derived.Test.YthlpmeiihchdjaaDoorPL
namespace Go.Proofs.YthlpmeiihchdjaaDoor.Pure
open Go.RowKit Go.Proofs.YthlpmeiihchdjaaDoor.PB Go.Proofs.YthlpmeiihchdjaaDoorW.PrintWords Go.Proofs.YthlpmeiihchdjaaDoorW.PrintLast
open Go.Lib Oid PL
namespace BindID

theorem up {α β : Type} {f : Nat → α → Option β} (hm : ∀ a k, LeO (f k a) (f (k + 1) a)) (a : α) {k : Nat} {r : β} (h : f k a = some r) : ∀ j, f (k + j) a = some r
  | 0 => h
  | j + 1 => hm a (k + j) r (up hm a h j)
theorem nib (x : Int) (h0 : 0 ≤ x) (h1 : x < 256) (k : Nat) : spec_bindDigit.f (k + 4) x = some (if Hx.v (UInt8.ofNat x.toNat) ≤ 15 then (Hx.v (UInt8.ofNat x.toNat) : Int) else -1) := by
  have key : ∀ c : Fin 256, spec_bindDigit.f 4 (c.val : Int) = some (if Hx.v (UInt8.ofNat c.val) ≤ 15 then (Hx.v (UInt8.ofNat c.val) : Int) else -1) := by decide +kernel
  obtain ⟨n, rfl⟩ : ∃ n : Nat, x = (n : Int) := ⟨x.toNat, by omega⟩
  have := up (f := spec_bindDigit.f) spec_bindDigit.mono (n : Int) (key ⟨n, by omega⟩) k
  rw [Nat.add_comm]
  simpa using this
theorem join (a b : Nat) (ha : a ≤ 15) (hb : b ≤ 15) : (wrap64 ((wrap64 (16 * (a : Int))) + (b : Int))) % 256 = ((UInt8.ofNat (a * 16 + b)).toNat : Int) := by
  have key : ∀ a b : Fin 16, (wrap64 ((wrap64 (16 * (a.val : Int))) + (b.val : Int))) % 256 = ((UInt8.ofNat (a.val * 16 + b.val)).toNat : Int) := by decide +kernel
  exact key ⟨a, by omega⟩ ⟨b, by omega⟩
theorem bt_at (s : ByteArray) (i : Nat) (h : i < s.size) : bt s (i : Int) = ((s.data.toList[i]'(by simpa using h)).toNat : Int) := by
  rw [PL.bt_get s _ (by omega) (by omega), Int.toNat_natCast, PL.get_data s i h]
def outOf : List UInt8 × Hx.Out → List Int → List Int × Bool
  | (D, .ok), acc => (acc ++ D.map (fun b => (b.toNat : Int)), true)
  | _, _ => ([], false)
theorem loop (s : ByteArray) (h24 : s.size = 24) : ∀ (m k : Nat) (acc : List Int), m ≤ 12 → acc.length + m ≤ 12 → spec_BindUnhex.l0 (2 * m + k + 6) s acc ((24 - 2 * m : Nat) : Int) = some (outOf (Hx.decode (s.data.toList.drop (24 - 2 * m))) acc)
  | 0, k, acc, _, _ => by
    have e : s.data.toList.drop (24 - 2 * 0) = [] := List.drop_eq_nil_of_le (by rw [Array.length_toList]; exact Nat.le_of_eq h24)
    rw [e, Hx.decode_nil]
    rw [show 2 * 0 + k + 6 = (k + 5) + 1 by omega, spec_BindUnhex.l0, if_neg (by decide)]
    simp [outOf]
  | m + 1, k, acc, hm, hacc => by
    obtain ⟨i, hi⟩ : ∃ i, i = 24 - 2 * (m + 1) := ⟨_, rfl⟩
    have hl : s.data.toList.length = 24 := by rw [Array.length_toList]; exact h24
    have hi1 : i < s.data.toList.length := by omega
    have hi2 : i + 1 < s.data.toList.length := by omega
    have hd := Hx.drop2 s.data.toList (i / 2) _ _ (by rw [show 2 * (i / 2) = i by omega]; exact List.getElem?_eq_getElem hi1) (by rw [show 2 * (i / 2) = i by omega]; exact List.getElem?_eq_getElem hi2)
    rw [show 2 * (i / 2) = i by omega, show 2 * (i / 2 + 1) = 24 - 2 * m by omega] at hd
    have w1 : wrap64 ((i : Int) + 1) = ((i + 1 : Nat) : Int) := by rw [wrap_id (by omega) (by omega)]; rfl
    have w2 : wrap64 ((i : Int) + 2) = ((24 - 2 * m : Nat) : Int) := by rw [wrap_id (by omega) (by omega)]; omega
    have ih := loop s h24 m k
    generalize hp : s.data.toList[i] = p at hd
    generalize hq : s.data.toList[i + 1] = q at hd
    have bp : bt s (i : Int) = (p.toNat : Int) := by rw [bt_at s i (by rw [h24]; omega), hp]
    have bq : bt s ((i + 1 : Nat) : Int) = (q.toNat : Int) := by rw [bt_at s (i + 1) (by rw [h24]; omega), hq]
    rw [← hi, hd, Hx.decode_two]
    have np := nib p.toNat (by omega) (by have := p.toNat_lt; omega) (2 * m + k + 3)
    have nq := nib q.toNat (by omega) (by have := q.toNat_lt; omega) (2 * m + k + 3)
    rw [Int.toNat_natCast, UInt8.ofNat_toNat, show 2 * m + k + 3 + 4 = (2 * m + k + 6) + 1 by omega] at np nq
    rw [show 2 * (m + 1) + k + 6 = ((2 * m + k + 6) + 1) + 1 by omega, spec_BindUnhex.l0, if_pos (by omega), if_pos (by omega), if_pos (by rw [h24]; omega), bp, np, Option.bind_some, w1, if_pos (by omega), if_pos (by rw [h24]; omega), bq, nq, Option.bind_some]
    by_cases c1 : Hx.v p ≤ 15
    · rw [if_pos c1, if_neg (show ¬ 15 < Hx.v p by omega), if_neg (by omega)]
      by_cases c2 : Hx.v q ≤ 15
      · rw [if_pos c2, if_neg (show ¬ 15 < Hx.v q by omega), decide_eq_false (by omega), spec_BindUnhex.j1]
        rw [if_neg (by simp), if_pos (by omega), join _ _ c1 c2, w2, ih _ (by omega) (by simp; omega)]
        generalize Hx.decode (List.drop (24 - 2 * m) s.data.toList) = D
        obtain ⟨D1, D2⟩ := D
        cases D2 <;> simp [outOf]
      · rw [if_neg c2, if_pos (show 15 < Hx.v q by omega), decide_eq_true (by omega), spec_BindUnhex.j1]
        simp [outOf]
    · rw [if_neg c1, if_pos (show 15 < Hx.v p by omega), if_pos (by omega), spec_BindUnhex.j1]
      simp [outOf]
theorem decode_full : ∀ l : List UInt8, (Hx.decode l).2 = .ok → (Hx.decode l).1.length * 2 = l.length
  | [], _ => by rw [Hx.decode_nil]; rfl
  | [c], h => by
    rw [Hx.decode_one] at h
    split at h <;> cases h
  | p :: q :: t, h => by
    rw [Hx.decode_two] at h ⊢
    by_cases c1 : 15 < Hx.v p
    · rw [if_pos c1] at h; cases h
    · rw [if_neg c1] at h ⊢
      by_cases c2 : 15 < Hx.v q
      · rw [if_pos c2] at h; cases h
      · rw [if_neg c2] at h ⊢
        have := decode_full t h
        simp only [List.length_cons]
        omega
theorem twelve (D : List UInt8) (h : D.length = 12) : (List.range 12).map (fun i => ((D[i]?.getD 0).toNat : Int)) = D.map (fun b => (b.toNat : Int)) := by
  refine List.ext_getElem (by simp [h]) fun i h1 h2 => ?_
  have hi : i < D.length := by simpa using h2
  simp [List.getElem?_eq_getElem hi]
theorem ofID (s : ByteArray) : ∃ k w ok, spec_BindUnhex.f k s = some (w, ok) ∧ idGood s.data.toList = ok ∧ (ok = true → idBytes s.data.toList = w) := by
  by_cases h24 : s.size = 24
  · have hl : s.data.toList.length = 24 := by rw [Array.length_toList]; exact h24
    have h := loop s h24 12 0 [] (Nat.le_refl _) (by simp)
    have hf := decode_full s.data.toList
    rw [show 24 - 2 * 12 = 0 by omega, List.drop_zero] at h
    refine ⟨2 * 12 + 0 + 6, (outOf (Hx.decode s.data.toList) []).1, (outOf (Hx.decode s.data.toList) []).2, ?_, ?_, ?_⟩
    · unfold spec_BindUnhex.f
      rw [if_pos (by omega)]
      exact h
    · unfold idGood
      rw [if_pos hl]
      generalize Hx.decode s.data.toList = D
      obtain ⟨D1, D2⟩ := D
      cases D2 <;> rfl
    · unfold idBytes
      rw [if_pos hl]
      generalize Hx.decode s.data.toList = D at hf
      obtain ⟨D1, D2⟩ := D
      cases D2 with
      | ok => intro _; have := hf rfl; simp only [outOf, List.nil_append]; exact twelve D1 (by simp only at this; omega)
      | bad c => intro h; cases h
      | odd => intro h; cases h
  · have hl : s.data.toList.length ≠ 24 := by rw [Array.length_toList]; exact h24
    refine ⟨0, [], false, ?_, ?_, fun h => by cases h⟩
    · unfold spec_BindUnhex.f
      rw [if_neg (by omega)]
    · unfold idGood
      rw [if_neg hl]
end BindID
theorem FnBindID : laws_FnBindID.Pure := by
  intro l0 l1 _ _ _ _ _ _
  obtain ⟨k, w, ok, hf, hg, hb⟩ := BindID.ofID (strOfNums l1)
  refine ⟨k + 3, ?_⟩
  have hf' : ∀ j, spec_BindUnhex.f (k + j) (strOfNums l1) = some (w, ok) := BindID.up (f := spec_BindUnhex.f) spec_BindUnhex.mono _ hf
  have u1 : ∀ n, laws_FnBindID.j1 (n + 1) l0 l1 true = some true := by intro n; simp [laws_FnBindID.j1]
  have main : laws_FnBindID.j0 (k + 3) l0 l1 false = some true := by
    rw [laws_FnBindID.j0, if_neg (by simp)]
    by_cases h12 : (l0.length : Int) = 12
    · rw [if_pos h12]
      by_cases hbig : (l1.length : Int) > 1000
      · rw [if_pos hbig]; exact u1 _
      · rw [if_neg hbig]
        by_cases h1 : (l1.length : Int) = 12
        · rw [show ((l1.length : Int) == 12) = true by simpa using h1]; exact u1 _
        · rw [show ((l1.length : Int) == 12) = false by simpa using h1, laws_FnBindID.j1, if_neg (by simp)]
          unfold impl_IDFromText.f
          rw [if_pos (by omega), Option.bind_some]
          unfold spec_BindID.f Bid.idOf
          by_cases h0 : l1.length = 0
          · rw [if_pos h0, if_pos (show (l1.length : Int) = 0 by omega), if_pos (by omega), Option.bind_some, if_pos (show (l1.length : Int) = 0 by omega)]
            simp only []
            by_cases he : (strOfNums l0).toList != (strOfNums (List.replicate 12 0)).toList
            · rw [he]; simp [laws_FnBindID.j2]
            · have he2 : ((strOfNums l0).toList != (strOfNums (List.replicate 12 0)).toList) = false := by simpa using he
              rw [he2, laws_FnBindID.j2, if_neg (by simp)]
              have he3 : (strOfNums l0).toList = (strOfNums (List.replicate 12 0)).toList := by simpa using he2
              rw [he3]
              simp
          · rw [if_neg h0, if_neg (show ¬ (l1.length : Int) = 0 by omega), if_neg h1, hf' 1, Option.bind_some, Option.bind_some, if_neg (show ¬ (l1.length : Int) = 0 by omega)]
            simp only []
            rw [hg, laws_FnBindID.j2, if_neg (by simp)]
            cases ok with
            | false => simp
            | true => simp [hb rfl]
    · rw [if_neg h12]; exact u1 _
  unfold laws_FnBindID.f
  by_cases c1 : (l0.length : Int) > 2147483647
  · rw [if_pos c1]; simp [laws_FnBindID.j0]
  · rw [if_neg c1]
    by_cases c2 : (l1.length : Int) > 2147483647
    · rw [decide_eq_true c2]; simp [laws_FnBindID.j0]
    · rw [decide_eq_false c2]; exact main

end Go.Proofs.YthlpmeiihchdjaaDoor.Pure
