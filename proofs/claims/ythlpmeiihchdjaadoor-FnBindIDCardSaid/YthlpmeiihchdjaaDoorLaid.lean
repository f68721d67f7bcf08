/- What the listed variables hold, out of the rows' premise. Conditions: the premise itself. -/
import Derived.Test.YthlpmeiihchdjaaDoorRows
import Derived.Test.YthlpmeiihchdjaaDoorOid
import Derived.WalkKit
import Derived.ProofKit
import Derived.LaidLaws
import Derived.LaidHandle
import Derived.RowKitTokens
import Derived.Stop.LaidTwo
namespace Go.Proofs.YthlpmeiihchdjaaDoor.Laid
open Go.RowKit
theorem gE : Tryd.prog.globalNamed "encoding/hex.ErrLength" = some 7 := by kernel_rfl
theorem gI : Tryd.prog.globalNamed "pub-gunnysack/pub/bson.ErrInvalidHex" = some 5 := by kernel_rfl
theorem gN : Tryd.prog.globalNamed "pub-gunnysack/pub/bson.NilObjectID" = some 4 := by kernel_rfl
theorem tE : (Tryd.prog.globals[7]?).map (·.type) = some 46 := by kernel_rfl
theorem tI : (Tryd.prog.globals[5]?).map (·.type) = some 46 := by kernel_rfl
theorem tN : (Tryd.prog.globals[4]?).map (·.type) = some 44 := by kernel_rfl
theorem cells98 : Tryd.prog.cellsOf 98 = 1 := by kernel_rfl
theorem cells9 : Tryd.prog.cellsOf 9 = 1 := by kernel_rfl
theorem cells5 : Tryd.prog.cellsOf 5 = 1 := by kernel_rfl
theorem cells44 : Tryd.prog.cellsOf 44 = 12 := by kernel_rfl
theorem star : "*" ++ "errors.errorString" = "*errors.errorString" := by decide
theorem row96 (u : TypeId) (h : Tryd.prog.typeName? 3 u = some "*errors.errorString") : u = 96 :=
  typeName_ptr_named (nm := "errors.errorString") (by rw [star]; kernel_rfl) (by kernel_rfl) (by decide) u (by rw [star]; exact h)
theorem mapM_at {β : Type} {f : Nat → Option β} : ∀ (l : List Nat) (xs : List β), l.mapM f = some xs → ∀ (i n : Nat), l[i]? = some n → ∃ x, f n = some x ∧ xs[i]? = some x
  | [], _, _, i, n, hn => by simp at hn
  | a :: l, xs, h, i, n, hn => by
    rw [List.mapM_cons] at h
    cases ha : f a with
    | none => simp [ha] at h
    | some y =>
      cases hl : l.mapM f with
      | none => simp [ha, hl] at h
      | some ys =>
        have e : y :: ys = xs := by simpa [ha, hl] using h
        subst e
        cases i with
        | zero =>
          obtain rfl : a = n := by simpa using hn
          exact ⟨y, ha, rfl⟩
        | succ i => exact mapM_at l ys hl i n (by simpa using hn)
theorem zeros {H : Type} {enc : TypeId × Value → H} {W : World} {fuel : Nat} {cs : List Value} {p : List MemPlace}
    (h : DataW.trod enc Tryd.prog W 0 (fun _ => true) false fuel 44 cs = some (.agg (List.replicate 12 (.lit (.int .u8 0))), p)) : ∀ i, i < 12 → cs[i]? = some (.int .u8 0) := by
  cases fuel with
  | zero => cases h
  | succ fuel =>
    unfold DataW.trod at h
    simp only [Tryd.underlying44] at h
    split at h
    next hlen =>
      obtain ⟨xs, hx, he⟩ := Option.map_eq_some_iff.1 h
      simp only [Prod.mk.injEq, DataW.agg.injEq] at he
      intro i hi
      obtain ⟨x, h1, h2⟩ := mapM_at _ xs hx i i (by rw [List.getElem?_range hi])
      have h3 : x.1 = .lit (.int .u8 0) := by
        have := congrArg (fun l => l[i]?) he.1
        simp only [List.getElem?_map, h2, Option.map_some, List.getElem?_replicate, if_pos hi] at this
        exact Option.some.inj this
      rw [cells5, Nat.mul_one] at h1
      have hl : i < cs.length := by rw [hlen, cells44]; exact hi
      have hc : (cs.drop i).take 1 = [cs[i]] := by rw [List.drop_eq_getElem_cons hl]; rfl
      rw [hc] at h1
      rw [List.getElem?_eq_getElem hl]
      congr 1
      cases fuel with
      | zero => cases h1
      | succ fuel =>
        unfold DataW.trod at h1
        simp only [Tryd.underlying5] at h1
        revert h1
        generalize cs[i] = c
        intro h1
        cases c with
        | int k n =>
          simp only [Option.ite_none_right_eq_some, Option.some.injEq] at h1
          obtain ⟨⟨rfl, _⟩, rfl⟩ := h1
          simp only [DataW.lit.injEq, Lit.int.injEq, true_and] at h3
          rw [h3]
        | _ => simp at h1
    next => cases h
theorem laid0_of {W : World} (h : laidMetH Tryd.prog Rows.fnExtIDsRow.laid W) : Oid.Laid0 W := by
  have h' : laidMet Tryd.prog [("encoding/hex.ErrLength", Rows.laid_encoding_hex_ErrLength), ("pub-gunnysack/pub/bson.ErrInvalidHex", Rows.laid_pub_gunnysack_pub_bson_ErrInvalidHex), ("pub-gunnysack/pub/bson.NilObjectID", Rows.laid_pub_gunnysack_pub_bson_NilObjectID)] W := h
  obtain ⟨a0, a1, s0, s1, c0, c1, t0, t1, hv0, hv1, _⟩ := laid_sentinels2 h' gE tE gI tI Tryd.underlying46 row96 Tryd.underlying96 Tryd.underlying98 rfl rfl Tryd.underlying9 cells98 cells9
  obtain ⟨ps, ⟨_, _, _, _, _, _, _, _, _, _, ⟨_, _, _, _, _, _, _, _, _, _, ⟨g2, t2, cs2, f2, p2, q2, hg2, ht2, hv2, hd2, _, _⟩, _⟩, _⟩, _⟩ := h'
  obtain rfl := Option.some.inj (gN.symm.trans hg2)
  obtain rfl := Option.some.inj (tN.symm.trans ht2)
  have hz := zeros hd2
  refine ⟨⟨96, _, by simpa using World.var?_cell gI hv1 0⟩, ⟨96, _, by simpa using World.var?_cell gE hv0 0⟩, fun i hi => ?_⟩
  have e := World.var?_cell gN hv2 i
  rw [← Array.getElem?_toList, hz i hi] at e
  exact e
end Go.Proofs.YthlpmeiihchdjaaDoor.Laid
