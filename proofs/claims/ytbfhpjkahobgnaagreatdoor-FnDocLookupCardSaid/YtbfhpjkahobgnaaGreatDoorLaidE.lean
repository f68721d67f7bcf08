/- What the listed sentinels hold, out of the row's premise: pointers to texts, no two the same. Conditions: the premise itself. -/
import Derived.Test.YtbfhpjkahobgnaaGreatDoorRows
import Derived.Test.YtbfhpjkahobgnaaGreatDoorEr
import Derived.WalkKit
import Derived.ProofKit
import Derived.LaidLaws
import Derived.LaidHandle
import Derived.RowKitTokens
import Derived.Stop.LaidErr
namespace Go.Proofs.YtbfhpjkahobgnaaGreatDoor.LaidE
open Go.RowKit
theorem g0 : Tryz.prog.globalNamed "io.EOF" = some 3 := by kernel_rfl
theorem t0 : (Tryz.prog.globals[3]?).map (·.type) = some 59 := by kernel_rfl
theorem g1 : Tryz.prog.globalNamed "pub-gunnysack/pub/bsoncore.ErrEmptyKey" = some 2 := by kernel_rfl
theorem t1 : (Tryz.prog.globals[2]?).map (·.type) = some 59 := by kernel_rfl
theorem g2 : Tryz.prog.globalNamed "pub-gunnysack/pub/bsoncore.ErrElementNotFound" = some 1 := by kernel_rfl
theorem t2 : (Tryz.prog.globals[1]?).map (·.type) = some 59 := by kernel_rfl
theorem g3 : Tryz.prog.globalNamed "pub-gunnysack/pub/bsoncore.ErrOutOfBounds" = some 0 := by kernel_rfl
theorem t3 : (Tryz.prog.globals[0]?).map (·.type) = some 59 := by kernel_rfl
theorem cellsE : Tryz.prog.cellsOf 262 = 1 := by kernel_rfl
theorem cellsS : Tryz.prog.cellsOf 9 = 1 := by kernel_rfl
theorem star : "*" ++ "errors.errorString" = "*errors.errorString" := by decide
theorem rowE (u : TypeId) (h : Tryz.prog.typeName? 3 u = some "*errors.errorString") : u = 260 :=
  typeName_ptr_named (nm := "errors.errorString") (by rw [star]; kernel_rfl) (by kernel_rfl) (by decide) u (by rw [star]; exact h)
theorem laid_g {P : Program} {nm : String} {ti tp te ts : TypeId} {ms : Array (String × TypeId)} {f : Field} {n0 : String} {x0 : List UInt8} {g0 : Nat} {n1 : String} {x1 : List UInt8} {g1 : Nat} {n2 : String} {x2 : List UInt8} {g2 : Nat} {n3 : String} {x3 : List UInt8} {g3 : Nat} {r : List (String × DataW Unit)} {W : World} (h : laidMet P ((n0, .iface nm (.ptr (.agg [.lit (.string x0)]))) :: (n1, .iface nm (.ptr (.agg [.lit (.string x1)]))) :: (n2, .iface nm (.ptr (.agg [.lit (.string x2)]))) :: (n3, .iface nm (.ptr (.agg [.lit (.string x3)]))) :: r) W) (hg0 : P.globalNamed n0 = some g0) (ht0 : (P.globals[g0]?).map (·.type) = some ti) (hg1 : P.globalNamed n1 = some g1) (ht1 : (P.globals[g1]?).map (·.type) = some ti) (hg2 : P.globalNamed n2 = some g2) (ht2 : (P.globals[g2]?).map (·.type) = some ti) (hg3 : P.globalNamed n3 = some g3) (ht3 : (P.globals[g3]?).map (·.type) = some ti)
    (hi : P.underlying ti = some (.interface ms)) (hrow : ∀ u, P.typeName? 3 u = some nm → u = tp) (hp : P.underlying tp = some (.pointer te)) (he : P.underlying te = some (.struct #[f])) (hft : f.type = ts) (hfo : f.offset = 0) (hs : P.underlying ts = some .string) (hc : P.cellsOf te = 1) (hcs : P.cellsOf ts = 1) :
    ∃ (a0 : Addr) (a1 : Addr) (a2 : Addr) (a3 : Addr), W.cell? ⟨g0, 0, none⟩ = some (.iface tp (.pointer (some a0))) ∧ W.cell? ⟨g1, 0, none⟩ = some (.iface tp (.pointer (some a1))) ∧ W.cell? ⟨g2, 0, none⟩ = some (.iface tp (.pointer (some a2))) ∧ W.cell? ⟨g3, 0, none⟩ = some (.iface tp (.pointer (some a3))) ∧ (∃ c t, W.heap[a0.block]? = some (.cells c t (0, 0))) ∧ (∃ c t, W.heap[a1.block]? = some (.cells c t (0, 0))) ∧ (∃ c t, W.heap[a2.block]? = some (.cells c t (0, 0))) ∧ (∃ c t, W.heap[a3.block]? = some (.cells c t (0, 0))) ∧ a0 ≠ a1 ∧ a0 ≠ a2 ∧ a0 ≠ a3 ∧ a1 ≠ a2 ∧ a1 ≠ a3 ∧ a2 ≠ a3 := by
  obtain ⟨ps, ⟨g0', t0', cs0, f0, p0, q0, hg0', ht0', hv0, hd0, ⟨g1', t1', cs1, f1, p1, q1, hg1', ht1', hv1, hd1, ⟨g2', t2', cs2, f2, p2, q2, hg2', ht2', hv2, hd2, ⟨g3', t3', cs3, f3, p3, q3, hg3', ht3', hv3, hd3, _, e3⟩, e2⟩, e1⟩, e0⟩, hnd, hrows⟩ := h
  obtain rfl := Option.some.inj (hg0.symm.trans hg0')
  obtain rfl := Option.some.inj (ht0.symm.trans ht0')
  obtain rfl := Option.some.inj (hg1.symm.trans hg1')
  obtain rfl := Option.some.inj (ht1.symm.trans ht1')
  obtain rfl := Option.some.inj (hg2.symm.trans hg2')
  obtain rfl := Option.some.inj (ht2.symm.trans ht2')
  obtain rfl := Option.some.inj (hg3.symm.trans hg3')
  obtain rfl := Option.some.inj (ht3.symm.trans ht3')
  subst e3
  subst e2
  subst e1
  subst e0
  obtain ⟨l0⟩ := cs0
  obtain ⟨l1⟩ := cs1
  obtain ⟨l2⟩ := cs2
  obtain ⟨l3⟩ := cs3
  have ok0 : ∀ u v, l0 = [.iface u v] → Value.okWide P W .any 0 u v := fun u v e => by
    subst e
    exact (hrows g0 0 (by simp [MemPlace.row])).2 u v (by simpa using World.var?_cell hg0' hv0 0)
  have ok1 : ∀ u v, l1 = [.iface u v] → Value.okWide P W .any 0 u v := fun u v e => by
    subst e
    exact (hrows g1 0 (by simp [MemPlace.row])).2 u v (by simpa using World.var?_cell hg1' hv1 0)
  have ok2 : ∀ u v, l2 = [.iface u v] → Value.okWide P W .any 0 u v := fun u v e => by
    subst e
    exact (hrows g2 0 (by simp [MemPlace.row])).2 u v (by simpa using World.var?_cell hg2' hv2 0)
  have ok3 : ∀ u v, l3 = [.iface u v] → Value.okWide P W .any 0 u v := fun u v e => by
    subst e
    exact (hrows g3 0 (by simp [MemPlace.row])).2 u v (by simpa using World.var?_cell hg3' hv3 0)
  obtain ⟨a0, s0, rfl, hc0, hs0, hz0, rfl⟩ := errorString_of_trod hi hrow hp he hft hfo hs hc hcs hd0 ok0
  obtain ⟨a1, s1, rfl, hc1, hs1, hz1, rfl⟩ := errorString_of_trod hi hrow hp he hft hfo hs hc hcs hd1 ok1
  obtain ⟨a2, s2, rfl, hc2, hs2, hz2, rfl⟩ := errorString_of_trod hi hrow hp he hft hfo hs hc hcs hd2 ok2
  obtain ⟨a3, s3, rfl, hc3, hs3, hz3, rfl⟩ := errorString_of_trod hi hrow hp he hft hfo hs hc hcs hd3 ok3
  obtain ⟨c0, y0, hb0⟩ := (hrows a0.block a0.off (by simp [MemPlace.row])).1
  obtain ⟨c1, y1, hb1⟩ := (hrows a1.block a1.off (by simp [MemPlace.row])).1
  obtain ⟨c2, y2, hb2⟩ := (hrows a2.block a2.off (by simp [MemPlace.row])).1
  obtain ⟨c3, y3, hb3⟩ := (hrows a3.block a3.off (by simp [MemPlace.row])).1
  refine ⟨a0, a1, a2, a3, ?_, ?_, ?_, ?_, ?_, ?_, ?_, ?_, ?_, ?_, ?_, ?_, ?_, ?_⟩
  · simpa using World.var?_cell hg0' hv0 0
  · simpa using World.var?_cell hg1' hv1 0
  · simpa using World.var?_cell hg2' hv2 0
  · simpa using World.var?_cell hg3' hv3 0
  · exact ⟨c0, y0, hb0⟩
  · exact ⟨c1, y1, hb1⟩
  · exact ⟨c2, y2, hb2⟩
  · exact ⟨c3, y3, hb3⟩
  · rintro rfl
    simp [MemPlace.row] at hnd
  · rintro rfl
    simp [MemPlace.row] at hnd
  · rintro rfl
    simp [MemPlace.row] at hnd
  · rintro rfl
    simp [MemPlace.row] at hnd
  · rintro rfl
    simp [MemPlace.row] at hnd
  · rintro rfl
    simp [MemPlace.row] at hnd
theorem laid_n {n0 : String} {x0 : List UInt8} {n1 : String} {x1 : List UInt8} {n2 : String} {x2 : List UInt8} {n3 : String} {x3 : List UInt8} {r : List (String × DataW Unit)} {W : World} (h : laidMet Tryz.prog ((n0, .iface "*errors.errorString" (.ptr (.agg [.lit (.string x0)]))) :: (n1, .iface "*errors.errorString" (.ptr (.agg [.lit (.string x1)]))) :: (n2, .iface "*errors.errorString" (.ptr (.agg [.lit (.string x2)]))) :: (n3, .iface "*errors.errorString" (.ptr (.agg [.lit (.string x3)]))) :: r) W) (hg0 : Tryz.prog.globalNamed n0 = some 3) (ht0 : (Tryz.prog.globals[3]?).map (·.type) = some 59) (hg1 : Tryz.prog.globalNamed n1 = some 2) (ht1 : (Tryz.prog.globals[2]?).map (·.type) = some 59) (hg2 : Tryz.prog.globalNamed n2 = some 1) (ht2 : (Tryz.prog.globals[1]?).map (·.type) = some 59) (hg3 : Tryz.prog.globalNamed n3 = some 0) (ht3 : (Tryz.prog.globals[0]?).map (·.type) = some 59) : ∃ ρ, Er.LaidE ρ W := by
  obtain ⟨a0, a1, a2, a3, v0, v1, v2, v3, b0, b1, b2, b3, n0_1, n0_2, n0_3, n1_2, n1_3, n2_3⟩ := laid_g h hg0 ht0 hg1 ht1 hg2 ht2 hg3 ht3 Tryz.underlying59 rowE Tryz.underlying260 Tryz.underlying262 rfl rfl Tryz.underlying9 cellsE cellsS
  refine ⟨fun g => if g = 3 then a0 else if g = 2 then a1 else if g = 1 then a2 else a3, ⟨?_, ?_, ?_⟩⟩
  · intro g hg
    rcases (show g = 0 ∨ g = 1 ∨ g = 2 ∨ g = 3 from by simpa [Er.sents] using hg) with rfl | rfl | rfl | rfl
    · exact v3
    · exact v2
    · exact v1
    · exact v0
  · intro g hg
    rcases (show g = 0 ∨ g = 1 ∨ g = 2 ∨ g = 3 from by simpa [Er.sents] using hg) with rfl | rfl | rfl | rfl
    · exact b3
    · exact b2
    · exact b1
    · exact b0
  · intro g hg h hh hne
    rcases (show g = 0 ∨ g = 1 ∨ g = 2 ∨ g = 3 from by simpa [Er.sents] using hg) with rfl | rfl | rfl | rfl
    · rcases (show h = 0 ∨ h = 1 ∨ h = 2 ∨ h = 3 from by simpa [Er.sents] using hh) with rfl | rfl | rfl | rfl
      · exact absurd rfl hne
      · exact fun e => n2_3 e.symm
      · exact fun e => n1_3 e.symm
      · exact fun e => n0_3 e.symm
    · rcases (show h = 0 ∨ h = 1 ∨ h = 2 ∨ h = 3 from by simpa [Er.sents] using hh) with rfl | rfl | rfl | rfl
      · exact n2_3
      · exact absurd rfl hne
      · exact fun e => n1_2 e.symm
      · exact fun e => n0_2 e.symm
    · rcases (show h = 0 ∨ h = 1 ∨ h = 2 ∨ h = 3 from by simpa [Er.sents] using hh) with rfl | rfl | rfl | rfl
      · exact n1_3
      · exact n1_2
      · exact absurd rfl hne
      · exact fun e => n0_1 e.symm
    · rcases (show h = 0 ∨ h = 1 ∨ h = 2 ∨ h = 3 from by simpa [Er.sents] using hh) with rfl | rfl | rfl | rfl
      · exact n0_3
      · exact n0_2
      · exact n0_1
      · exact absurd rfl hne
theorem laid_of {W : World} (h : laidMetH Tryz.prog Rows.fnDocLookupRow.laid W) : ∃ ρ, Er.LaidE ρ W := by
  have h' : laidMet Tryz.prog [("math/bits.deBruijn32tab", Rows.laid_math_bits_deBruijn32tab), ("math/bits.deBruijn64tab", Rows.laid_math_bits_deBruijn64tab), ("internal/strconv.uint64pow10", Rows.laid_internal_strconv_uint64pow10), ("io.EOF", Rows.laid_io_EOF), ("pub-gunnysack/pub/bsoncore.ErrEmptyKey", Rows.laid_pub_gunnysack_pub_bsoncore_ErrEmptyKey), ("pub-gunnysack/pub/bsoncore.ErrElementNotFound", Rows.laid_pub_gunnysack_pub_bsoncore_ErrElementNotFound), ("pub-gunnysack/pub/bsoncore.ErrOutOfBounds", Rows.laid_pub_gunnysack_pub_bsoncore_ErrOutOfBounds)] W := h
  exact laid_n (laidMet.tail (laidMet.tail (laidMet.tail h'))) g0 t0 g1 t1 g2 t2 g3 t3
end Go.Proofs.YtbfhpjkahobgnaaGreatDoor.LaidE
