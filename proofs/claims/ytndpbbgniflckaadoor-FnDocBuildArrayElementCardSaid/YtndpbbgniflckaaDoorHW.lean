/- Words for the walks of this seat: a string appended to a row of bytes of the call's own, with word on where the new row lies. Conditions: as each theorem states them. -/
import Derived.Test.YtndpbbgniflckaaDoorWMore
import Derived.Lib.AppendStr
import Derived.Lib.BytesEntry
import Derived.Shelf.Bytes.SlIndexAt
import Derived.Lib.IndexLaws
import Derived.Laws.RangeAny
import Derived.Laws.RangeString
import Derived.LoopTactic
import Derived.StillTailTactics
namespace Go.Proofs.YtndpbbgniflckaaDoor.HW
open Go.RowKit Go.Proofs.YtndpbbgniflckaaDoorW.PrintWords Go.Proofs.YtndpbbgniflckaaDoorW.PrintLast Go.Proofs.YtndpbbgniflckaaDoorW.PrintMore

/-- Where the row lies that an append of a string makes: where it lay, or in a new block. -/
theorem append_str_place {P : Program} (w : World) (base : Nat) (t u ty e : TypeId) (i : TypeInfo) (ht : P.underlying t = some (.slice e)) (hu : P.underlying u = some .string) (hi : P.info? e = some i) (hz : i.zero = some (.int .u8 0))
    (hsize : i.size = 1) (hby : i.bytes = 1) (v : Value) (n : Nat) (xs : List Value) (hown : w.ownsRow base e 1 v n xs) (s : ByteArray)
    (h63 : n + s.size ≤ maxLen) (hbytes : n + s.size ≤ 140737488355328) {v' : Value} {w' : World} (hr : (Builtin.append_ #[t, u] ty #[v, .string s]).run P w = .ok v' w') :
    v'.ownBlock = v.ownBlock ∨ ∃ b, v'.ownBlock = some b ∧ w.heap.size ≤ b := by
  have hsmall : n + s.size ≤ 9223372036854775807 := by simp only [maxLen] at h63; omega
  have hxl : xs.length = n := by simpa using hown.1
  rcases hown.2 with ⟨rfl, rfl⟩ | ⟨g, cap, cur, rfl, hbg, hg, hnc, hcm, hcs, htake⟩
  · by_cases hm : s.size = 0
    · have hf := Lib.run_firstCells_string (P := P) w 1 s
      rw [hm] at hf
      have h2 : (Builtin.append_ #[t, u] ty #[.slice none 0 0, .string s]).run P w = .ok (.slice none 0 0) w := by
        simp [Builtin.append_, run_underlying ht, run_underlying hu, sizeOf, typeInfo, hi, hsize, Builtin.lenOf, hm, hf]
      rw [h2] at hr
      injection hr with h3 _
      subst h3
      exact .inl rfl
    · have h2 := run_append_nil_string (P := P) w t u ty e i (.int .u8 0) ht hu hi hz s (by omega) (by omega) (by rw [hby]; omega)
      rw [h2] at hr
      injection hr with h3 _
      subst h3
      exact .inr ⟨w.heap.size, rfl, Nat.le_refl _⟩
  · by_cases hroom : n + s.size ≤ cap
    · have hcs' : cur.size = cap := by simpa using hcs
      have h2 := Lib.run_append_room_string (P := P) w t u ty e i ht hu hi hsize g n cap cur hg s hroom (by omega)
      rw [h2] at hr
      injection hr with h3 _
      subst h3
      exact .inl rfl
    · have holds : ∀ j u, xs[j]? = some u → w.cell? ((⟨g, 0, none⟩ : Addr).add j) = some u := hown.cells (g := g) rfl
      have h2 := Lib.run_append_grow_string (P := P) w t u ty e i (.int .u8 0) ht hu hi hz ⟨g, 0, none⟩ n cap xs (by rw [hsize]; simpa using hxl) holds s (by omega) (by omega) (by rw [hby]; exact growslice_fits (by omega) (by omega))
      rw [h2] at hr
      injection hr with h3 _
      subst h3
      exact .inr ⟨w.heap.size, rfl, Nat.le_refl _⟩

section
variable {P : Program} {ops : Array Oper} {rest : List Oper} {o : Oper} {a : Act} {Q : Exit → Act → World → Prop}
theorem R_append_str {w0 W : World} (base : Nat) (hgd : o.guard = none) (s x : Operand) (t u e : TypeId)
    (ho : o.op = .call { callee := .builtin .append, args := #[s, x], argTypes := #[t, u] })
    (ht : P.underlying t = some (.slice e)) (hu : P.underlying u = some .string) (hinfo : (P.info? e).map (fun i => (i.zero, i.size, i.bytes)) = some (some (.int .u8 0), 1, 1))
    (v : Value) (xs : List Int) (y : ByteArray) (ok : Nat → Prop) (hs : a.eval s = v) (hx : a.eval x = .string y)
    (HO : (Kd.int .u8).R e W base ok v xs) (hfresh : ∀ k, W.heap.size ≤ k → ok k) (HB : Below base w0 W) (hbase : base ≤ W.heap.size) (hl : xs.length + y.size ≤ 140737488355328)
    (h : ∀ v1 w1, (Kd.int .u8).R e w1 base ok v1 (xs ++ bytesOf y) → Below base w0 w1 → W.grownBy w1 v.ownBlock → (v1.ownBlock = v.ownBlock ∨ ∃ b, v1.ownBlock = some b ∧ W.heap.size ≤ b) → wpList P ops Q rest (a.put o.dst v1) w1) :
    wpList P ops Q (o :: rest) a W := by
  obtain ⟨i0, hi, hzz⟩ := Option.map_eq_some_iff.1 hinfo
  simp only [Prod.mk.injEq] at hzz
  obtain ⟨hz0, hz1, hz2⟩ := hzz
  have HO' : W.ownsRow base e 1 v xs.length (nums .u8 xs) := Kd.own_of_R HO
  have h63 : xs.length + y.size ≤ maxLen := by simp only [maxLen]; omega
  refine wpList_plain hgd fun K hK => ?_
  obtain ⟨v1, w1, hr, hown, hg, _⟩ := Lib.run_append_own_string (P := P) W base t u o.type e i0 ht hu hi hz0 hz1 hz2 v xs.length (nums .u8 xs) HO' y h63 hl hbase
  have hat := append_str_place (P := P) W base t u o.type e i0 ht hu hi hz0 hz1 hz2 v xs.length (nums .u8 xs) HO' y h63 hl hr
  have hl2 : (xs ++ bytesOf y).length = xs.length + y.size := by rw [List.length_append, bytesOf_length]
  have hc : nums .u8 (xs ++ bytesOf y) = nums .u8 xs ++ Lib.strCells y := by
    rw [nums_append]
    congr 1
    simp [nums, bytesOf, Lib.strCells]
  have hown2 : w1.ownsRow base e 1 v1 (xs ++ bytesOf y).length (encs (Value.int .u8) (xs ++ bytesOf y)) := by
    have := hown
    rw [← hl2, ← hc] at this
    exact this
  have hok : ∀ k, v1.ownBlock = some k → ok k := by
    intro k hk
    rcases hat with e1 | ⟨b, e1, hb⟩
    · exact HO.1 k (e1 ▸ hk)
    · rw [e1] at hk
      injection hk with hk
      exact hfresh k (hk ▸ hb)
  unfold Oper.wp execOp
  simp only [ho, resolve, invoke, builtin, Sem.run_bind, Sem.run_pure, Result.andThen_ok, List.map_toArray, List.map_cons, List.map_nil, hs, hx, hr]
  exact hK _ _ (h v1 w1 (Kd.R_of_own hown2 hok) (HB.grown hg hbase (own_base HO')) hg hat)
end


/-- One step of a range over a string, as far as a search for the byte 0 goes. -/
theorem decode_zero (s : ByteArray) (pos : Nat) (h : pos < s.size) :
    1 ≤ (Utf8.decode s pos).2 ∧ ((Utf8.decode s pos).1 = 0 ↔ s.get! pos = 0) ∧ (s.get! pos ≠ 0 → ∀ j, pos ≤ j → j < pos + (Utf8.decode s pos).2 → j < s.size ∧ s.get! j ≠ 0) := by
  have e0 : s.get! pos = s[pos]'h := by simp [ByteArray.get!, getElem!_pos, h]; rfl
  by_cases ha : (s[pos]'h).toNat < 128
  · rw [decode_ascii s pos h ha]
    refine ⟨Nat.le_refl _, ?_, ?_⟩
    · rw [e0]
      show (s[pos]'h).toNat = 0 ↔ s[pos]'h = 0
      constructor
      · intro hz; exact UInt8.toNat_inj.1 (by rw [hz]; rfl)
      · intro hz; rw [hz]; rfl
    · intro hz j h1 h2
      have : j = pos := by simp at h2; omega
      subst this
      exact ⟨h, hz⟩
  · obtain ⟨h1, h2⟩ := decode_high s pos h (by omega)
    have hnz : s.get! pos ≠ 0 := by
      rw [e0]
      intro hz
      rw [hz] at ha
      exact ha (by decide)
    refine ⟨h2, ⟨fun hz => by omega, fun hz => absurd hz hnz⟩, fun _ => ?_⟩
    have hcont : ∀ k, (pos + k < s.size && (s.get! (pos + k)).toNat / 64 == 2) = true → pos + k < s.size ∧ s.get! (pos + k) ≠ 0 := by
      intro k hk
      simp only [Bool.and_eq_true, decide_eq_true_eq, beq_iff_eq] at hk
      refine ⟨hk.1, fun hz => ?_⟩
      have := hk.2
      rw [hz] at this
      exact absurd this (by decide)
    intro j hj1 hj2
    obtain ⟨k, rfl⟩ : ∃ k, j = pos + k := ⟨j - pos, by omega⟩
    have hk : k < (Utf8.decode s pos).2 := by omega
    rcases Nat.eq_zero_or_pos k with rfl | hkp
    · exact ⟨h, hnz⟩
    · unfold Utf8.decode at hk
      simp only at hk
      repeat' split at hk
      all_goals dsimp only at hk
      all_goals first
        | (exfalso; omega)
        | (rename_i hc _
           simp only [Bool.and_eq_true] at hc
           have hk1 : k = 1 ∨ k = 2 ∨ k = 3 := by omega
           rcases hk1 with rfl | rfl | rfl <;> first | (exfalso; omega) | (refine hcont _ ?_; simp only [Bool.and_eq_true]; first | exact hc.1.2 | exact hc.2 | exact hc.1.1.2))
end Go.Proofs.YtndpbbgniflckaaDoor.HW
