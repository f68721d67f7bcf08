/- Words for the walks of this seat: a string appended to a row of bytes of the call's own, with word on where the new row lies. Conditions: as each theorem states them. -/
import Derived.Test.YtpbfigeaoefcmaaDoorWMore
import Derived.Lib.AppendStr
import Derived.Lib.BytesEntry
import Derived.Shelf.Bytes.SlIndexAt
import Derived.Lib.IndexLaws
import Derived.Laws.RangeAny
import Derived.Laws.RangeString
import Derived.LoopTactic
import Derived.StillTailTactics
import Derived.Laws.IdiomStrings
import Derived.Laws.Cover4
namespace Go.Proofs.YtpbfigeaoefcmaaDoorW.PrintWords.Kd
open Go.RowKit
/-- A shared row that is not empty lies in no block that is not ok. -/
theorem V_away {α : Type} {d : Kd α} {e base g : Nat} {ok : Nat → Prop} {W : World} {v : Value} {xs : List α} (h : V d e W base ok v xs) (hok : ∀ k, ok k → k ≠ g) (hne : ¬ xs = [] := by first | assumption | (intro h_; subst h_; simp_all)) (hs : 0 < d.sz := by first | exact Nat.one_pos | decide) : some g ≠ v.ownBlock := by
  obtain ⟨A, c, rfl, hl, hf⟩ := h
  cases xs with
  | nil => exact absurd rfl hne
  | cons x xs =>
    obtain ⟨ad, _, rfl, _, _, _, hb⟩ := F_get hf x 0 (Int.le_refl _) (by simp)
    intro he
    have : g = ad.block := by simpa [Value.ownBlock] using he
    exact hok _ (hb hs) this.symm
end Go.Proofs.YtpbfigeaoefcmaaDoorW.PrintWords.Kd
namespace Go.Proofs.YtpbfigeaoefcmaaDoor.HW
open Go.RowKit Go.Proofs.YtpbfigeaoefcmaaDoorW.PrintWords Go.Proofs.YtpbfigeaoefcmaaDoorW.PrintLast Go.Proofs.YtpbfigeaoefcmaaDoorW.PrintMore

/-! short forms (shrink.py): what is carried through allocations and draws -/
theorem zb {B : Nat} {w W : World} (h : Below B w W := by repeat (first | (with_reducible first | exact Aside0.out (by assumption) | apply below_alloc | apply pw_below_drewN | apply below_drew1 | refine below_set ?_ (Aside0.out (by assumption))) | exact Aside0.out (by assumption))) : Below B w W := h
section
variable {α : Type} {d : Kd α} {e base g : Nat} {ok : Nat → Prop} {W W' : World} {v : Value} {xs : List α} {o : Obj}
theorem zV (h : Kd.V d e W base ok v xs) (hb : Below W.heap.size W W' := by repeat (first | exact Below.refl _ _ | apply below_alloc | apply pw_below_drewN | apply below_drew1)) : Kd.V d e W' base ok v xs := Kd.V_below h hb
theorem zR (h : d.R e W base ok v xs) (hb : Below W.heap.size W W' := by repeat (first | exact Below.refl _ _ | apply below_alloc | apply pw_below_drewN | apply below_drew1)) : d.R e W' base ok v xs := Kd.R_below h hb
theorem zB (h : W.heap[g]? = some o) (hb : Below W.heap.size W W' := by repeat (first | exact Below.refl _ _ | apply below_alloc | apply pw_below_drewN | apply below_drew1)) : W'.heap[g]? = some o := blk_below h hb
end
/-! one step of a region that draws its order, its side goals by themselves (shrink.py) -/
section
variable {P : Program} {md : Region.Mode} {ops : Array Oper} {Q : Exit → Act → World → Prop} {S : World → Prop} {ds : List Nat}
theorem pz {i : Nat} {N : Option Tmp} {oi : Oper} {v : Value} {fuel : Nat} {l : Array Bool} {a a' : Act} {w : World} (l' : Array Bool) (h : wpAnyLast P md ops Q S ds fuel l' a' w) (hi : ops[i]? = some oi := by rfl) (hN : oi.dst = N := by rfl) (hc : anyB md ops l l' i = true := by kernel_rfl)
    (hQ : ∀ c a w, Q (.panic c) (a.put oi.dst v) w → Q (.panic c) a w := by exact fun _ _ _ h => h) (hy : Yields P ops oi v a := by (refine Or.inl ⟨by rfl, ?_⟩; intro w'; go_simp; with_reducible rfl)) (ha : a.put N v = a' := by (simp only [Act.put, List.setIfInBounds_toArray, List.set_cons_zero, List.set_cons_succ, i64_w, i32_w]; rfl)) :
    wpAnyLast P md ops Q S ds (fuel + 1) l a w := pure_ l' hi hN hc hQ hy ha h
theorem nz {N : Option Tmp} {v : Value} {fuel : Nat} {l : Array Bool} {a a' : Act} {w : World} (h : wpAnyLast P md ops Q S ds fuel l a' w) (ha : Act.put a N v = a' := by (simp only [Act.put, List.setIfInBounds_toArray, List.set_cons_zero, List.set_cons_succ, i64_w, i32_w]; rfl)) : wpAnyLast P md ops Q S ds fuel l (Act.put a N v) w := norm_ ha h
end
theorem zc {w : World} {g t : Nat} {cs : Array Value} (h : w.heap[g]? = some (.cells cs t (0, 0))) (j : Nat) (v : Value) (hv : cs[j]? = some v := by rfl) : w.cell? ⟨g, j, none⟩ = some v := (blk_cell h j).trans hv
theorem zk {w W : World} {S : Nat → Prop} (h : Kept w W S := by repeat (first | (with_reducible first | exact Aside0.out (by assumption) | apply Kept.alloc | apply Kept.drewN | apply Kept.drew) | exact Aside0.out (by assumption))) : Kept w W S := h
theorem zk1 {w W : World} (S : Nat → Prop) (h : Kept w W S := by repeat (first | (with_reducible first | exact Aside0.out (by assumption) | apply Kept.alloc | apply Kept.drewN | apply Kept.drew) | exact Aside0.out (by assumption))) : w.heap.size ≤ W.heap.size := h.1
/-! words with their tactics as defaults (squeeze3.py) -/
theorem rp {p : Prop} (h : p := by first | (with_reducible exact H) | (have H2_ := (Option.bind_some _ _).symm.trans H; with_reducible exact H2_) | exact H) : p := h
theorem mo {p : Prop} (h : p := by repeat' first | (with_reducible exact LeO.refl _) | (with_reducible exact LeO.none _) | (with_reducible refine LeO.ite ?_ ?_) | (with_reducible refine LeO.bind ?_ (fun _ => ?_)) | apply m0_ | apply m1_ | apply m2_ | apply m3_ | apply m4_ | apply m5_ | exact LeO.none _ | refine LeO.ite ?_ ?_ | refine LeO.bind ?_ (fun _ => ?_)) : p := h
theorem mt {p : Prop} (h : p := by ((try simp only [List.map_toArray, List.map_cons, List.map_nil]); first | done | rfl | (simp only [List.length_drop, List.length_take]; rfl))) : p := h
theorem od {p : Prop} [Decidable p] (h : decide p = true := by first | (with_reducible assumption) | assumption) : p := of_decide_eq_true h
theorem pt {p : Prop} (h : p := by (simp only [Act.put, List.setIfInBounds_toArray, List.set_cons_zero, List.set_cons_succ, i64_w, i32_w]; rfl)) : p := h
theorem rs {p : Prop} (h : p := by first | rfl | (simp; done) | (simp [*]; done)) : p := h
section
variable {P : Program} {md : Region.Mode} {ops : Array Oper} {Q : Exit → Act → World → Prop} {S : World → Prop} {ds : List Nat}
theorem pa (i : Nat) {N : Option Tmp} {oi : Oper} {v : Value} {fuel : Nat} {l : Array Bool} {a a' : Act} {w : World} (l' : Array Bool) (h : wpAnyLast P md ops Q S ds fuel l' a' w) (hi : ops[i]? = some oi := by rfl) (hN : oi.dst = N := by rfl) (hc : anyB md ops l l' i = true := by exact any_of HT_.out (by kernel_rfl))
    (hQ : ∀ c a w, Q (.panic c) (a.put oi.dst v) w → Q (.panic c) a w := by exact fun _ _ _ h => h) (hy : Yields P ops oi v a := by (refine Or.inl ⟨by rfl, ?_⟩; intro w'; go_simp; with_reducible rfl)) (ha : a.put N v = a' := by (simp only [Act.put, List.setIfInBounds_toArray, List.set_cons_zero, List.set_cons_succ, i64_w, i32_w]; rfl)) :
    wpAnyLast P md ops Q S ds (fuel + 1) l a w := pure_ l' hi hN hc hQ hy ha h
end
abbrev tt : Bool := true
abbrev ff : Bool := false
theorem k8 {w : World} {g t : Nat} {a b c d e f x y : Value} (h : w.heap[g]? = some (.cells #[a, b, c, d, e, f, x, y] t (0, 0))) : w.cell? ⟨g, 0, none⟩ = some a ∧ w.cell? ⟨g, 1, none⟩ = some b ∧ w.cell? ⟨g, 2, none⟩ = some c ∧ w.cell? ⟨g, 3, none⟩ = some d ∧ w.cell? ⟨g, 4, none⟩ = some e ∧ w.cell? ⟨g, 5, none⟩ = some f ∧ w.cell? ⟨g, 6, none⟩ = some x ∧ w.cell? ⟨g, 7, none⟩ = some y := ⟨(blk_cell h 0).trans rfl, (blk_cell h 1).trans rfl, (blk_cell h 2).trans rfl, (blk_cell h 3).trans rfl, (blk_cell h 4).trans rfl, (blk_cell h 5).trans rfl, (blk_cell h 6).trans rfl, (blk_cell h 7).trans rfl⟩
theorem k8f {w : World} {g t : Nat} {a b c d e f x y : Value} (h : w.heap[g]? = some (.cells #[a, b, c, d, e, f, x, y] t (0, 0))) : w.cell? ⟨g, 0, none⟩ = some a ∧ w.cell? ⟨g, 1, none⟩ = some b ∧ w.cell? ⟨g, 2, none⟩ = some c ∧ w.cell? ⟨g, 3, none⟩ = some d ∧ w.cell? ⟨g, 4, none⟩ = some e ∧ w.cell? ⟨g, 5, none⟩ = some f ∧ w.cell? ⟨g, 6, none⟩ = some x ∧ w.cell? ⟨g, 7, none⟩ = some y ∧ w.frozen? ⟨g, 0, none⟩ = false ∧ w.frozen? ⟨g, 1, none⟩ = false ∧ w.frozen? ⟨g, 2, none⟩ = false ∧ w.frozen? ⟨g, 3, none⟩ = false ∧ w.frozen? ⟨g, 4, none⟩ = false ∧ w.frozen? ⟨g, 5, none⟩ = false ∧ w.frozen? ⟨g, 6, none⟩ = false ∧ w.frozen? ⟨g, 7, none⟩ = false := ⟨(blk_cell h 0).trans rfl, (blk_cell h 1).trans rfl, (blk_cell h 2).trans rfl, (blk_cell h 3).trans rfl, (blk_cell h 4).trans rfl, (blk_cell h 5).trans rfl, (blk_cell h 6).trans rfl, (blk_cell h 7).trans rfl, blk_frozen h 0, blk_frozen h 1, blk_frozen h 2, blk_frozen h 3, blk_frozen h 4, blk_frozen h 5, blk_frozen h 6, blk_frozen h 7⟩
theorem k2 {w : World} {g t : Nat} {a b : Value} (h : w.heap[g]? = some (.cells #[a, b] t (0, 0))) : w.cell? ⟨g, 0, none⟩ = some a ∧ w.cell? ⟨g, 1, none⟩ = some b := ⟨(blk_cell h 0).trans rfl, (blk_cell h 1).trans rfl⟩
theorem k2f {w : World} {g t : Nat} {a b : Value} (h : w.heap[g]? = some (.cells #[a, b] t (0, 0))) : w.cell? ⟨g, 0, none⟩ = some a ∧ w.cell? ⟨g, 1, none⟩ = some b ∧ w.frozen? ⟨g, 0, none⟩ = false ∧ w.frozen? ⟨g, 1, none⟩ = false := ⟨(blk_cell h 0).trans rfl, (blk_cell h 1).trans rfl, blk_frozen h 0, blk_frozen h 1⟩
theorem c8 {w : World} {g t : Nat} {a b c d e f x y : Value} (h : w.heap[g]? = some (.cells #[a, b, c, d, e, f, x, y] t (0, 0))) :
    (∀ o, (w.alloc o).cell? ⟨g, 0, none⟩ = some a) ∧ (∀ o, (w.alloc o).cell? ⟨g, 1, none⟩ = some b) ∧ (∀ o, (w.alloc o).cell? ⟨g, 2, none⟩ = some c) ∧ (∀ o, (w.alloc o).cell? ⟨g, 3, none⟩ = some d) ∧ (∀ o, (w.alloc o).cell? ⟨g, 4, none⟩ = some e) ∧ (∀ o, (w.alloc o).cell? ⟨g, 5, none⟩ = some f) ∧ (∀ o, (w.alloc o).cell? ⟨g, 6, none⟩ = some x) ∧ (∀ o, (w.alloc o).cell? ⟨g, 7, none⟩ = some y) ∧
    w.cell? ⟨g, 0, none⟩ = some a ∧ w.cell? ⟨g, 1, none⟩ = some b ∧ w.cell? ⟨g, 2, none⟩ = some c ∧ w.cell? ⟨g, 3, none⟩ = some d ∧ w.cell? ⟨g, 4, none⟩ = some e ∧ w.cell? ⟨g, 5, none⟩ = some f ∧ w.cell? ⟨g, 6, none⟩ = some x ∧ w.cell? ⟨g, 7, none⟩ = some y :=
  ⟨fun o => (blk_cell (blk_alloc h o) 0).trans rfl, fun o => (blk_cell (blk_alloc h o) 1).trans rfl, fun o => (blk_cell (blk_alloc h o) 2).trans rfl, fun o => (blk_cell (blk_alloc h o) 3).trans rfl, fun o => (blk_cell (blk_alloc h o) 4).trans rfl, fun o => (blk_cell (blk_alloc h o) 5).trans rfl, fun o => (blk_cell (blk_alloc h o) 6).trans rfl, fun o => (blk_cell (blk_alloc h o) 7).trans rfl,
    (blk_cell h 0).trans rfl, (blk_cell h 1).trans rfl, (blk_cell h 2).trans rfl, (blk_cell h 3).trans rfl, (blk_cell h 4).trans rfl, (blk_cell h 5).trans rfl, (blk_cell h 6).trans rfl, (blk_cell h 7).trans rfl⟩
section
variable {P : Program} {ops : Array Oper} {Q : Exit → Act → World → Prop}
theorem gz {rest : List Oper} {oi : Oper} {a : Act} {w : World} (N : Option Tmp) (hd : oi.dst = N) (hg : oi.guard = none) {f : FuncId} {fn : Func} {as_ : Array Operand} {ts : Array TypeId} (hf : P.funcs[f]? = some fn) (hname : (fn.name == "runtime.NumGoroutine") = false) (hb : fn.body.isSome = true) (args : Array Value)
    (hop : oi.op = .call { callee := .value (.func f), args := as_, argTypes := ts }) (h : Calls P f args w fun e w' => ∃ v, e = .returned v ∧ wpList P ops Q rest (a.put N v) w')
    (hargs : as_.map a.eval = args := by ((try simp only [List.map_toArray, List.map_cons, List.map_nil]); first | done | rfl | (simp only [List.length_drop, List.length_take]; rfl))) : wpList P ops Q (oi :: rest) a w := goesL_ N hd hg hf hname hb args hop hargs h
end
/-- Where the row lies that an append of a string makes: where it lay, or in a new block. -/
theorem append_str_place {P : Program} (w : World) (base : Nat) (t u ty e : TypeId) (i : TypeInfo) (ht : P.underlying t = some (.slice e)) (hu : P.underlying u = some .string) (hi : P.info? e = some i) (hz : i.zero = some (.int .u8 0))
    (hsize : i.size = 1) (hby : i.bytes = 1) (v : Value) (n : Nat) (xs : List Value) (hown : w.ownsRow base e 1 v n xs) (s : ByteArray)
    (h63 : n + s.size ≤ maxLen) (hbytes : n + s.size ≤ 140737488355328) {v' : Value} {w' : World} (hr : (Builtin.append_ #[t, u] ty #[v, .string s]).run P w = .ok v' w') :
    v'.ownBlock = v.ownBlock ∨ ∃ b, v'.ownBlock = some b ∧ w.heap.size ≤ b := by
  have hsmall : n + s.size ≤ 9223372036854775807 := by simp only [maxLen] at h63; omega
  have hxl : xs.length = n := by simpa using hown.1
  rcases hown.2 with ⟨rfl, rfl⟩ | ⟨g, cap, cur, rfl, hbg, hg, hnc, hcm, hcs, htake⟩
  · by_cases hm : s.size = 0
    · have hf := Lib.run_firstCells_string (P := P) w 1 s
      rw [hm] at hf
      have h2 : (Builtin.append_ #[t, u] ty #[.slice none 0 0, .string s]).run P w = .ok (.slice none 0 0) w := by
        simp [Builtin.append_, run_underlying ht, run_underlying hu, sizeOf, typeInfo, hi, hsize, Builtin.lenOf, hm, hf]
      rw [h2] at hr
      injection hr with h3 _
      subst h3
      exact .inl rfl
    · have h2 := run_append_nil_string (P := P) w t u ty e i (.int .u8 0) ht hu hi hz s (by omega) (by omega) (by rw [hby]; omega)
      rw [h2] at hr
      injection hr with h3 _
      subst h3
      exact .inr ⟨w.heap.size, rfl, Nat.le_refl _⟩
  · by_cases hroom : n + s.size ≤ cap
    · have hcs' : cur.size = cap := by simpa using hcs
      have h2 := Lib.run_append_room_string (P := P) w t u ty e i ht hu hi hsize g n cap cur hg s hroom (by omega)
      rw [h2] at hr
      injection hr with h3 _
      subst h3
      exact .inl rfl
    · have holds : ∀ j u, xs[j]? = some u → w.cell? ((⟨g, 0, none⟩ : Addr).add j) = some u := hown.cells (g := g) rfl
      have h2 := Lib.run_append_grow_string (P := P) w t u ty e i (.int .u8 0) ht hu hi hz ⟨g, 0, none⟩ n cap xs (by rw [hsize]; simpa using hxl) holds s (by omega) (by omega) (by rw [hby]; exact growslice_fits (by omega) (by omega))
      rw [h2] at hr
      injection hr with h3 _
      subst h3
      exact .inr ⟨w.heap.size, rfl, Nat.le_refl _⟩

section
variable {P : Program} {ops : Array Oper} {rest : List Oper} {o : Oper} {a : Act} {Q : Exit → Act → World → Prop}
theorem R_append_str {w0 W : World} (base : Nat) (hgd : o.guard = none) (s x : Operand) (t u e : TypeId)
    (ho : o.op = .call { callee := .builtin .append, args := #[s, x], argTypes := #[t, u] })
    (ht : P.underlying t = some (.slice e)) (hu : P.underlying u = some .string) (hinfo : (P.info? e).map (fun i => (i.zero, i.size, i.bytes)) = some (some (.int .u8 0), 1, 1))
    (v : Value) (xs : List Int) (y : ByteArray) (ok : Nat → Prop) (hs : a.eval s = v) (hx : a.eval x = .string y)
    (HO : (Kd.int .u8).R e W base ok v xs) (hfresh : ∀ k, W.heap.size ≤ k → ok k) (HB : Below base w0 W) (hbase : base ≤ W.heap.size) (hl : xs.length + y.size ≤ 140737488355328)
    (h : ∀ v1 w1, (Kd.int .u8).R e w1 base ok v1 (xs ++ bytesOf y) → Below base w0 w1 → W.grownBy w1 v.ownBlock → (v1.ownBlock = v.ownBlock ∨ ∃ b, v1.ownBlock = some b ∧ W.heap.size ≤ b) → wpList P ops Q rest (a.put o.dst v1) w1) :
    wpList P ops Q (o :: rest) a W := by
  obtain ⟨i0, hi, hzz⟩ := Option.map_eq_some_iff.1 hinfo
  simp only [Prod.mk.injEq] at hzz
  obtain ⟨hz0, hz1, hz2⟩ := hzz
  have HO' : W.ownsRow base e 1 v xs.length (nums .u8 xs) := Kd.own_of_R HO
  have h63 : xs.length + y.size ≤ maxLen := by simp only [maxLen]; omega
  refine wpList_plain hgd fun K hK => ?_
  obtain ⟨v1, w1, hr, hown, hg, _⟩ := Lib.run_append_own_string (P := P) W base t u o.type e i0 ht hu hi hz0 hz1 hz2 v xs.length (nums .u8 xs) HO' y h63 hl hbase
  have hat := append_str_place (P := P) W base t u o.type e i0 ht hu hi hz0 hz1 hz2 v xs.length (nums .u8 xs) HO' y h63 hl hr
  have hl2 : (xs ++ bytesOf y).length = xs.length + y.size := by rw [List.length_append, bytesOf_length]
  have hc : nums .u8 (xs ++ bytesOf y) = nums .u8 xs ++ Lib.strCells y := by
    rw [nums_append]
    congr 1
    simp [nums, bytesOf, Lib.strCells]
  have hown2 : w1.ownsRow base e 1 v1 (xs ++ bytesOf y).length (encs (Value.int .u8) (xs ++ bytesOf y)) := by
    have := hown
    rw [← hl2, ← hc] at this
    exact this
  have hok : ∀ k, v1.ownBlock = some k → ok k := by
    intro k hk
    rcases hat with e1 | ⟨b, e1, hb⟩
    · exact HO.1 k (e1 ▸ hk)
    · rw [e1] at hk
      injection hk with hk
      exact hfresh k (hk ▸ hb)
  unfold Oper.wp execOp
  simp only [ho, resolve, invoke, builtin, Sem.run_bind, Sem.run_pure, Result.andThen_ok, List.map_toArray, List.map_cons, List.map_nil, hs, hx, hr]
  exact hK _ _ (h v1 w1 (Kd.R_of_own hown2 hok) (HB.grown hg hbase (own_base HO')) hg hat)
end

/-- string(b), b shared. -/
theorem V_string {P : Program} {w : World} {base src dst e e' : TypeId} {ok : Nat → Prop} {v : Value} {xs : List Int} (hs : P.underlying src = some (.slice e)) (he : P.underlying e = some (.int .u8)) (hd : P.underlying dst = some .string)
    (h : (Kd.int .u8).V e' w base ok v xs) : (convert src dst v).run P w = .ok (.string (strOfNums xs)) w := by
  obtain ⟨A, c, rfl, _, hf⟩ := h
  exact Kd.C_string hs he hd (hf w (fun _ _ _ => rfl))

/-- One step of a range over a string, as far as a search for the byte 0 goes. -/
theorem decode_zero (s : ByteArray) (pos : Nat) (h : pos < s.size) :
    1 ≤ (Utf8.decode s pos).2 ∧ ((Utf8.decode s pos).1 = 0 ↔ s.get! pos = 0) ∧ (s.get! pos ≠ 0 → ∀ j, pos ≤ j → j < pos + (Utf8.decode s pos).2 → j < s.size ∧ s.get! j ≠ 0) := by
  have e0 : s.get! pos = s[pos]'h := by simp [ByteArray.get!, getElem!_pos, h]; rfl
  by_cases ha : (s[pos]'h).toNat < 128
  · rw [decode_ascii s pos h ha]
    refine ⟨Nat.le_refl _, ?_, ?_⟩
    · rw [e0]
      show (s[pos]'h).toNat = 0 ↔ s[pos]'h = 0
      constructor
      · intro hz; exact UInt8.toNat_inj.1 (by rw [hz]; rfl)
      · intro hz; rw [hz]; rfl
    · intro hz j h1 h2
      have : j = pos := by simp at h2; omega
      subst this
      exact ⟨h, hz⟩
  · obtain ⟨h1, h2⟩ := decode_high s pos h (by omega)
    have hnz : s.get! pos ≠ 0 := by
      rw [e0]
      intro hz
      rw [hz] at ha
      exact ha (by decide)
    refine ⟨h2, ⟨fun hz => by omega, fun hz => absurd hz hnz⟩, fun _ => ?_⟩
    have hcont : ∀ k, (pos + k < s.size && (s.get! (pos + k)).toNat / 64 == 2) = true → pos + k < s.size ∧ s.get! (pos + k) ≠ 0 := by
      intro k hk
      simp only [Bool.and_eq_true, decide_eq_true_eq, beq_iff_eq] at hk
      refine ⟨hk.1, fun hz => ?_⟩
      have := hk.2
      rw [hz] at this
      exact absurd this (by decide)
    intro j hj1 hj2
    obtain ⟨k, rfl⟩ : ∃ k, j = pos + k := ⟨j - pos, by omega⟩
    have hk : k < (Utf8.decode s pos).2 := by omega
    rcases Nat.eq_zero_or_pos k with rfl | hkp
    · exact ⟨h, hnz⟩
    · unfold Utf8.decode at hk
      simp only at hk
      repeat' split at hk
      all_goals dsimp only at hk
      all_goals first
        | (exfalso; omega)
        | (rename_i hc _
           simp only [Bool.and_eq_true] at hc
           have hk1 : k = 1 ∨ k = 2 ∨ k = 3 := by omega
           rcases hk1 with rfl | rfl | rfl <;> first | (exfalso; omega) | (refine hcont _ ?_; simp only [Bool.and_eq_true]; first | exact hc.1.2 | exact hc.2 | exact hc.1.1.2))
/-! []rune(s), string of runes, make([]T, 0, n) -/
def runesOf (s : ByteArray) : List Int := (Conv.runesFrom s s.size 0 #[]).toList.map intOf
theorem runes_form (s : ByteArray) : ∀ (bound i : Nat) (acc : Array Value), (∃ l : List Int, acc.toList = l.map (Value.int .i32)) → ∃ l : List Int, (Conv.runesFrom s bound i acc).toList = l.map (Value.int .i32)
  | 0, _, acc, h => by unfold Conv.runesFrom; exact h
  | bound + 1, i, acc, h => by
    unfold Conv.runesFrom
    split
    · refine runes_form s bound _ _ ?_
      obtain ⟨l, hl⟩ := h
      exact ⟨l ++ [Int.ofNat (Utf8.decode s i).1], by rw [Array.toList_push, hl, List.map_append]; rfl⟩
    · exact h
theorem runes_cells (s : ByteArray) : (Conv.runesFrom s s.size 0 #[]).toList = (runesOf s).map (Value.int .i32) := by
  obtain ⟨l, hl⟩ := runes_form s s.size 0 #[] ⟨[], rfl⟩
  unfold runesOf
  have h2 : (intOf ∘ Value.int .i32) = id := by funext x; rfl
  have h3 : (l.map (Value.int .i32)).map intOf = l := by rw [List.map_map, h2, List.map_id]
  rw [hl, h3]
theorem runesOf_length (s : ByteArray) : (runesOf s).length = (Conv.runesFrom s s.size 0 #[]).size := by simp [runesOf]
theorem runesOf_le (s : ByteArray) : (runesOf s).length ≤ s.size := by
  rw [runesOf_length]
  simpa using size_runesFrom s s.size 0 #[]
section
variable {P : Program} {ops : Array Oper} {rest : List Oper} {o : Oper} {a : Act} {Q : Exit → Act → World → Prop}
theorem R_runes {w0 W : World} (base e : Nat) (hgd : o.guard = none) {N : Tmp} (_hd : o.dst = some N) (src dst : TypeId) (x : Operand) (ho : o.op = .convert src dst x) (s : ByteArray) (hx : a.eval x = .string s)
    (hs : P.underlying src = some .string) (hdt : P.underlying dst = some (.slice e)) (he : P.underlying e = some (.int .i32)) {ok : Nat → Prop} (hfresh : ok W.heap.size) (hl : s.size ≤ 70368744177664) (HB : Below base w0 W) (hbase : base ≤ W.heap.size)
    (h : ∀ v1 w1, (Kd.int .i32).R e w1 base ok v1 (runesOf s) → Below base w0 w1 → W.grownBy w1 none → (∃ b, v1.ownBlock = some b ∧ W.heap.size ≤ b) → wpList P ops Q rest (a.put o.dst v1) w1) : wpList P ops Q (o :: rest) a W := by
  have hn := runesOf_le s
  have hsz := runesOf_length s
  have hr := run_runes_of_string (P := P) W src dst e s hs hdt he (by omega)
  generalize hC : Conv.runesFrom s s.size 0 #[] ++ Array.replicate (grownCap W (Conv.runesFrom s s.size 0 #[]).size 0 e - (Conv.runesFrom s s.size 0 #[]).size) (Value.int .i32 0) = C at hr
  have hg := grownCap_ge W (runesOf s).length 0 e
  have hg2 := grownCap_le_maxLen W (runesOf s).length 0 e (by simp only [maxLen]; omega)
  rw [← hsz] at hr hC
  generalize grownCap W (runesOf s).length 0 e = cap at hr hC hg hg2
  have hgr : W.grownBy (W.drew.alloc (.cells C e)) none := ⟨rfl, rfl, rfl, by show W.heap.size ≤ (W.heap.push _).size; simp, fun k hk _ => by show (W.heap.push _)[k]? = _; rw [Array.getElem?_push_lt hk, Array.getElem?_eq_getElem hk]⟩
  refine Kd.event_run hgd (v := .slice (some ⟨W.heap.size, 0, none⟩) (runesOf s).length cap) (w1 := W.drew.alloc (.cells C e)) ?_ (h _ _ (Kd.R_of_own ?_ ?_) ?_ hgr ⟨W.heap.size, rfl, Nat.le_refl _⟩)
  · simp [execOp, ho, hx, hr]
  · refine ⟨by rw [encs_length]; simp, .inr ⟨W.heap.size, cap, C, rfl, hbase, ?_, hg, hg2, ?_, ?_⟩⟩
    · show (W.heap.push _)[W.heap.size]? = _
      simp
    · rw [← hC]; simp; omega
    · rw [← hC, Array.toList_append, runes_cells, Nat.mul_one, List.take_append_of_le_length (by simp)]
      rw [List.take_of_length_le (by simp)]
      rfl
  · intro k hk
    have : W.heap.size = k := by simpa [Value.ownBlock] using hk
    subst this
    exact hfresh
  · exact (below_drew HB).alloc hbase _
end
/-- string(runes), a row of the call's own. -/
theorem own_runes_string {P : Program} {w : World} {base src dst e e' : TypeId} {ok : Nat → Prop} {v : Value} {xs : List Int} (hs : P.underlying src = some (.slice e)) (he : P.underlying e = some (.int .i32)) (hd : P.underlying dst = some .string)
    (h : (Kd.int .i32).R e' w base ok v xs) : (convert src dst v).run P w = .ok (.string (runesBytes xs)) w := by
  have ho := Kd.own_of_R h
  rcases ho.2 with ⟨rfl, h0⟩ | ⟨g, cap, cur, rfl, hb, hh, hnc, hcm, hcs, ht⟩
  · have : xs = [] := List.eq_nil_of_length_eq_zero h0
    subst this
    exact run_convert_runes_nil w src dst e 0 0 hs he hd
  · have := run_convert_runes (P := P) w src dst e ⟨g, 0, none⟩ xs.length cap xs (Nat.le_refl _) hs he hd (fun j hj => by
      have := ho.cells (g := g) rfl j (.int .i32 (xs.getD j 0)) (by simp [encs, List.getElem?_eq_getElem hj, List.getD_eq_getElem?_getD])
      simpa using this)
    rw [List.take_length] at this
    exact this
section
variable {P : Program} {ops : Array Oper} {rest : List Oper} {o : Oper} {a : Act} {Q : Exit → Act → World → Prop} {α : Type}
/-- make([]T, 0, n). -/
theorem R_make0 (d : Kd α) {w0 W : World} (base e : Nat) (hgd : o.guard = none) {N : Tmp} (_hd : o.dst = some N) (t : TypeId) (x y : Operand) (ho : o.op = .makeSlice t x y) (n : Int) (hx : a.eval x = .int .i64 0) (hy : a.eval y = .int .i64 n)
    (ht : P.underlying t = some (.slice e)) (z : Value) (bytes : Nat) (hinfo : (P.info? e).map (fun i => (i.zero, i.size, i.bytes)) = some (some z, d.sz, bytes)) (hb0 : 0 < bytes)
    {ok : Nat → Prop} (hfresh : ok W.heap.size) (h0 : 0 ≤ n) (hl : n.toNat * bytes ≤ 281474976710656) (HB : Below base w0 W) (hbase : base ≤ W.heap.size)
    (h : ∀ v1 w1, d.R e w1 base ok v1 ([] : List α) → Below base w0 w1 → W.grownBy w1 none → (∃ b, v1.ownBlock = some b ∧ W.heap.size ≤ b) → wpList P ops Q rest (a.put o.dst v1) w1) : wpList P ops Q (o :: rest) a W := by
  obtain ⟨m, rfl⟩ := Int.eq_ofNat_of_zero_le h0
  simp only [Int.toNat_natCast] at hl
  obtain ⟨i0, hi, hzz⟩ := Option.map_eq_some_iff.1 hinfo
  simp only [Prod.mk.injEq] at hzz
  obtain ⟨hz0, hz1, hz2⟩ := hzz
  have hm : m ≤ 281474976710656 := Nat.le_trans (Nat.le_mul_of_pos_right _ hb0) hl
  obtain ⟨w', hr, hown, hg⟩ := run_make_own (P := P) W base t e i0 z d.sz ht hi hz0 hz1 .i64 .i64 m (by rw [hz2, Nat.mul_comm]; exact hl) (by simp only [maxLen]; omega) hbase
  refine Kd.event_run hgd (v := .slice (some ⟨W.heap.size, 0, none⟩) 0 m) (w1 := w') ?_ (h _ _ ⟨fun k hk => ?_, [], hown, Reps.none _ _⟩ (HB.grown hg hbase (by simp)) hg ⟨W.heap.size, rfl, Nat.le_refl _⟩)
  · simp [execOp, ho, hx, hy, hr]
  · have : W.heap.size = k := by simpa [Value.ownBlock] using hk
    subst this
    exact hfresh
theorem N_make0 (d : Kd α) {w0 W : World} (base e : Nat) (hgd : o.guard = none) {N' : Tmp} (hd : o.dst = some N') (t : TypeId) (x y : Operand) (ho : o.op = .makeSlice t x y) (n : Int) (hx : a.eval x = .int .i64 0) (hy : a.eval y = .int .i64 n)
    (ht : P.underlying t = some (.slice e)) (z : Value) (bytes : Nat) (hinfo : (P.info? e).map (fun i => (i.zero, i.size, i.bytes)) = some (some z, d.sz, bytes)) (hb0 : 0 < bytes)
    {ok : Nat → Prop} (hfresh : ∀ k, W.heap.size ≤ k → ok k) (h0 : 0 ≤ n) (hl : n.toNat * bytes ≤ 281474976710656) (HB : Below base w0 W) (hbase : base ≤ W.heap.size)
    (h : ∀ v1 w1, Kd.N d e w1 base ok v1 ([] : List α) → Below base w0 w1 → W.grownBy w1 none → (∃ b, v1.ownBlock = some b ∧ W.heap.size ≤ b) → wpList P ops Q rest (a.put o.dst v1) w1) : wpList P ops Q (o :: rest) a W := by
  refine R_make0 (Kd.raw d.sz) base e hgd hd t x y ho n hx hy ht z bytes hinfo hb0 (ok := fun k => k = W.heap.size) rfl h0 hl HB hbase ?_
  intro v1 w1 hr hb hg hat
  exact h v1 w1 (Kd.N_made (okp := fun _ => False) hr hg hat rfl (fun j y c hy hc => by simp at hy) (fun _ hk => hk.elim) (hfresh _ (Nat.le_refl _))) hb hg hat
end
end Go.Proofs.YtpbfigeaoefcmaaDoor.HW
