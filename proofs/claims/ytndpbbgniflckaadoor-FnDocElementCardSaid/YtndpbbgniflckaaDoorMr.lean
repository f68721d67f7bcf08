/- Rows of bytes of the call's own whose mark, if they have one, lies behind the last cell: []byte(text) makes one, and it is appended to. Conditions: as each theorem states them. -/
import Derived.Test.YtndpbbgniflckaaDoorProg
import Derived.Test.YtndpbbgniflckaaDoorHW
import Derived.Below
import Derived.Deep.Draws
import Derived.OwnWalk
import Derived.Tactics
import Derived.WalkKit
import Derived.KernelRfl
import Derived.RowKit3
import Derived.Deep.LoopGhost
import Derived.Deep.QuietTactic
import Derived.BigQuiet
import Derived.WideLaws
import Derived.Deep.DeepCutAuto
import Derived.Deep.CutBlock
import Derived.Laws.Rows
import Derived.Outline
import Derived.StillTailTactics
import Derived.Deep.RegionHeld3
import Derived.Lib.FrozenHead2
import Derived.Laws.IdiomStrings
import Derived.Test.YtndpbbgniflckaaDoorWMore
namespace Go.Proofs.YtndpbbgniflckaaDoor.HW
open Go.RowKit Go.Proofs.YtndpbbgniflckaaDoorW.PrintWords Go.Proofs.YtndpbbgniflckaaDoorW.PrintLast Go.Proofs.YtndpbbgniflckaaDoorW.PrintMore
set_option linter.unusedVariables false
set_option linter.unusedSimpArgs false
theorem run_storeCells_atM (P : Program) (g o : Nat) (t : TypeId) (fz : Nat × Nat) : ∀ (vs : List Value) (i : Nat) (cur : Array Value) (w : World), w.heap[g]? = some (.cells cur t fz) → (fz = (0, 0) ∨ cur.size ≤ fz.1) → o + i + vs.length ≤ cur.size → (∀ v ∈ vs, v.oneCell' = true) →
    (storeCells ⟨g, o, none⟩ vs i).run P w = .ok () (w.setRow g (cur.toList.take (o + i) ++ vs ++ cur.toList.drop (o + i + vs.length)).toArray)
  | [], i, cur, w, hg, _, _, _ => by
    simp only [storeCells, List.append_nil, List.length_nil, Nat.add_zero, List.take_append_drop, Array.toArray_toList]
    rw [setRow_self w g cur t fz hg]
    rfl
  | v :: rest, i, cur, w, hg, hfz, hl, h1 => by
    have hi : o + i < cur.size := by simp at hl; omega
    have hadd : (⟨g, o, none⟩ : Addr).add i = ⟨g, o + i, none⟩ := by unfold Addr.add; split <;> simp_all
    have hcell : w.cell? ⟨g, o + i, none⟩ = some cur[o + i] := by simp [World.cell?, hg, hi]
    have hfro : w.frozen? ⟨g, o + i, none⟩ = false := by
      obtain ⟨lo, hi'⟩ := fz
      simp only [World.frozen?, hg, Bool.and_eq_false_iff, decide_eq_false_iff_not]
      rcases hfz with hfz | hfz
      · right
        simp only [Prod.mk.injEq] at hfz
        omega
      · left
        simp only at hfz
        omega
    have hst : (store ((⟨g, o, none⟩ : Addr).add i) v).run P w = .ok () (w.setRow g (cur.setIfInBounds (o + i) v)) := by
      rw [hadd, run_store P w _ v _ (h1 v (by simp)), hcell]
      simp [hfro, setCell_eq_setRow w g (o + i) cur t fz v hg]
    have ih := run_storeCells_atM P g o t fz rest (i + 1) (cur.setIfInBounds (o + i) v) (w.setRow g (cur.setIfInBounds (o + i) v)) (setRow_heap w g cur _ t _ hg) (by simpa using hfz) (by simp at hl ⊢; omega) (fun x hx => h1 x (by simp [hx]))
    simp only [storeCells, Sem.run_bind, hst, Result.andThen_ok, ih, setRow_setRow]
    congr 3
    have e := list_seg_step cur.toList (o + i) v rest (by simp at hl ⊢; omega)
    simpa [Array.toList_setIfInBounds, Nat.add_assoc] using e
/-- A row of the call's own whose mark, if it has one, lies behind its last cell. -/
def MOwn (w : World) (base : Nat) (e : TypeId) (v : Value) (n : Nat) (xs : List Value) : Prop :=
  xs.length = n ∧ ∃ g cap cur fz, v = .slice (some ⟨g, 0, none⟩) n cap ∧ base ≤ g ∧ w.heap[g]? = some (.cells cur e fz) ∧ (fz = (0, 0) ∨ cap ≤ fz.1) ∧ n ≤ cap ∧ cap ≤ maxLen ∧ cur.size = cap ∧ cur.toList.take n = xs
def MR (_d : Kd Int) (e : Nat) (w : World) (base : Nat) (ok : Nat → Prop) (v : Value) (xs : List Int) : Prop :=
  (∀ k, v.ownBlock = some k → ok k) ∧ MOwn w base e v xs.length (nums .u8 xs)
section
variable {d : Kd Int} {e base : Nat} {ok ok' : Nat → Prop} {w W w1 : World} {u v v1 : Value} {xs ys : List Int}
theorem M_mono (h : MR d e w base ok v xs) (hok : ∀ k, ok k → ok' k) : MR d e w base ok' v xs := ⟨fun k hk => hok k (h.1 k hk), h.2⟩
theorem M_both (h : MR d e w base ok v xs) : ∀ k, v.ownBlock = some k → base ≤ k ∧ k < w.heap.size := by
  obtain ⟨_, _, g, cap, cur, fz, rfl, hb, hg, _⟩ := h
  intro k hk
  have : g = k := by simpa [Value.ownBlock] using hk
  subst this
  exact ⟨hb, (Array.getElem?_eq_some_iff.1 hg).1⟩
theorem M_lt (h : MR d e w base ok v xs) : ∀ k, v.ownBlock = some k → k < w.heap.size := fun k hk => (M_both h k hk).2
theorem M_base (h : MR d e w base ok v xs) : ∀ k, v.ownBlock = some k → base ≤ k := fun k hk => (M_both h k hk).1
theorem M_bound (h : MR d e w base ok v xs) : MR d e w base (fun k => ok k ∧ base ≤ k ∧ k < w.heap.size) v xs := ⟨fun k hk => ⟨h.1 k hk, M_both h k hk⟩, h.2⟩
theorem M_move (h : MR d e w base ok v xs) (hm : ∀ k, ok k → w1.heap[k]? = w.heap[k]?) : MR d e w1 base ok v xs := by
  obtain ⟨h0, hl, g, cap, cur, fz, rfl, hb, hg, rest⟩ := h
  exact ⟨h0, hl, g, cap, cur, fz, rfl, hb, by rw [hm g (h0 g rfl)]; exact hg, rest⟩
theorem M_step (h : MR d e w base ok v xs) (hm : ∀ k, ok k → k < w.heap.size → w1.heap[k]? = w.heap[k]?) : MR d e w1 base ok v xs :=
  M_mono (M_move (M_bound h) (fun k hk => hm k hk.1 hk.2.2)) (fun _ hk => hk.1)
theorem M_below (h : MR d e w base ok v xs) (hb : Below w.heap.size w w1) : MR d e w1 base ok v xs := M_step h (fun k _ hk => hb.block k hk)
theorem M_alloc (h : MR d e w base ok v xs) (o : Obj) : MR d e (w.alloc o) base ok v xs := M_below h (below_alloc (Below.refl _ _) o)
theorem M_drew (h : MR d e w base ok v xs) : MR d e w.drew base ok v xs := M_below h (below_drew (Below.refl _ _))
theorem M_drewN (h : MR d e w base ok v xs) (m : Nat) : MR d e (w.drewN m) base ok v xs := M_below h (pw_below_drewN (Below.refl _ _) m)
theorem M_apart_nil (h : MR d e w base ok u xs) : MR d e w base (fun k => ok k ∧ some k ≠ (Value.slice none 0 0).ownBlock) u xs := M_mono h (fun k hk => ⟨hk, by simp [Value.ownBlock]⟩)
theorem M_after (h : MR d e W base (fun k => ok k ∧ some k ≠ v.ownBlock) u xs) (hg : W.grownBy w1 v.ownBlock) (hat : v1.ownBlock = v.ownBlock ∨ ∃ b, v1.ownBlock = some b ∧ W.heap.size ≤ b) : MR d e w1 base (fun k => ok k ∧ some k ≠ v1.ownBlock) u xs := by
  refine M_mono (M_move (M_bound h) (fun k hk => hg.block k hk.2.2 hk.1.2)) (fun k hk => ⟨hk.1.1, ?_⟩)
  rcases hat with hat | ⟨b, hb, hle⟩
  · rw [hat]; exact hk.1.2
  · rw [hb]
    intro he
    injection he with he
    have := hk.2.2
    omega
theorem M_elder' (hu : MR d e W base ok u xs) (hbase : ∀ k, v.ownBlock = some k → W.heap.size ≤ k) (hb : Below W.heap.size W w1) : MR d e w1 base (fun k => ok k ∧ some k ≠ v.ownBlock) u xs :=
  M_mono (M_move (M_bound hu) (fun k hk => hb.block k hk.2.2)) (fun k hk => ⟨hk.1, fun he => by have := hbase k he.symm; have := hk.2.2; omega⟩)
theorem M_ne (h : MR d e w base ok v xs) {g t : Nat} {cells : Array Value} (hb : w.heap[g]? = some (.cells cells t (0, 0))) (ht : e ≠ t) : some g ≠ v.ownBlock := by
  obtain ⟨_, _, g', cap, cur, fz, rfl, _, hg, _⟩ := h
  intro he
  have : g = g' := by simpa [Value.ownBlock] using he
  subst this
  rw [hg] at hb
  injection hb with hb
  injection hb with _ hb
  exact ht hb
theorem M_cells (h : MR d e w base ok v xs) {g : Nat} (hv : v.ownBlock = some g) : ∀ j u, (nums .u8 xs)[j]? = some u → w.cell? ((⟨g, 0, none⟩ : Addr).add j) = some u := by
  obtain ⟨_, hl, g', cap, cur, fz, rfl, _, hg, _, _, _, _, htake⟩ := h
  intro j u hu
  have : g' = g := by simpa [Value.ownBlock] using hv
  subst this
  have hadd : (⟨g', 0, none⟩ : Addr).add j = ⟨g', j, none⟩ := by unfold Addr.add; split <;> simp_all
  rw [hadd, cell_of_row w g' j cur e fz hg]
  rw [← htake, List.getElem?_take] at hu
  split at hu
  · simpa using hu
  · cases hu
theorem M_slice (h : MR d e w base ok v xs) : ∃ A c, v = .slice A xs.length c := by
  obtain ⟨_, _, g', cap, cur, fz, rfl, _⟩ := h
  exact ⟨_, _, rfl⟩
theorem M_reads' {A : Option Addr} {n c : Nat} (h : MR d e w base ok (.slice A n c) xs) : n = xs.length ∧ n ≤ c ∧ (Kd.int .u8).C w A xs.length xs := by
  have hc := h
  obtain ⟨_, hl, g', cap, cur, fz, he, _, hg, _, hnc, hcm, _⟩ := h
  injection he with h1 h2 h3
  subst h1 h2 h3
  refine ⟨rfl, hnc, rfl, ?_, fun _ => ⟨_, rfl, fun j p hj => ⟨[.int .u8 p], rfl, rfl, fun i u hi => ?_⟩⟩⟩
  · simp only [maxLen] at hcm; omega
  · have hi0 : i = 0 := by
      have := (List.getElem?_eq_some_iff.1 hi).1
      simp at this
      exact this
    subst hi0
    have : u = .int .u8 p := by simpa using hi.symm
    subst this
    have := M_cells hc (g := g') rfl j (.int .u8 p) (by simp [nums, hj])
    simpa [Kd.int, Kd.scalar] using this
end
section
variable {P : Program} (w : World)
theorem run_append_roomM (t ty e : TypeId) (i : TypeInfo) (ht : P.underlying t = some (.slice e)) (hi : P.info? e = some i)
    (g sLen sCap : Nat) (cur : Array Value) (fz : Nat × Nat) (hg : w.heap[g]? = some (.cells cur e fz)) (hfz : fz = (0, 0) ∨ cur.size ≤ fz.1)
    (a : Addr) (m c : Nat) (news : List Value) (hl : news.length = m * i.size) (hnews : ∀ j u, news[j]? = some u → w.cell? (a.add j) = some u) (h1 : ∀ u ∈ news, u.oneCell' = true)
    (hroom : sLen + m ≤ sCap) (hfit : sLen * i.size + news.length ≤ cur.size) :
    (Builtin.append_ #[t, t] ty #[.slice (some ⟨g, 0, none⟩) sLen sCap, .slice (some a) m c]).run P w =
      .ok (.slice (some ⟨g, 0, none⟩) (sLen + m) sCap) (w.setRow g (cur.toList.take (sLen * i.size) ++ news ++ cur.toList.drop (sLen * i.size + news.length)).toArray) := by
  have hf := run_firstCells_some (P := P) w i.size m a m c news hl hnews
  have hst := run_storeCells_atM P g (sLen * i.size) e fz news 0 cur w hg hfz (by simpa using hfit) h1
  simp only [Nat.add_zero] at hst
  simp [Builtin.append_, run_underlying ht, sizeOf, typeInfo, hi, Builtin.lenOf, hroom, hf, Addr.add_lit, hst]
theorem run_append_M (base : Nat) (t ty e : TypeId) (i : TypeInfo) (ht : P.underlying t = some (.slice e)) (hi : P.info? e = some i) (hz : i.zero = some (.int .u8 0)) (hsize : i.size = 1) (hby : i.bytes = 1)
    (v : Value) (n : Nat) (xs : List Value) (hown : MOwn w base e v n xs)
    (a : Addr) (m c : Nat) (news : List Value) (hl : news.length = m) (hnews : ∀ j u, news[j]? = some u → w.cell? (a.add j) = some u) (h1 : ∀ u ∈ news, u.oneCell' = true)
    (h63 : n + m ≤ maxLen) (hbytes : n + m ≤ 140737488355328) (hbase : base ≤ w.heap.size) :
    ∃ v' w', (Builtin.append_ #[t, t] ty #[v, .slice (some a) m c]).run P w = .ok v' w' ∧ MOwn w' base e v' (n + m) (xs ++ news) ∧ w.grownBy w' v.ownBlock ∧ (v'.ownBlock = v.ownBlock ∨ ∃ b, v'.ownBlock = some b ∧ w.heap.size ≤ b) := by
  obtain ⟨hxl, g, cap, cur, fz, rfl, hbg, hg, hfz, hnc, hcm, hcs, htake⟩ := hown
  have hsmall : n + m ≤ 9223372036854775807 := by simp only [maxLen] at h63; omega
  have hlen : (xs ++ news).length = n + m := by rw [List.length_append, hxl, hl]
  have hl' : news.length = m * i.size := by rw [hsize, hl, Nat.mul_one]
  by_cases hroom : n + m ≤ cap
  · have hr := run_append_roomM (P := P) w t ty e i ht hi g n cap cur fz hg (by rw [hcs]; exact hfz) a m c news hl' hnews h1 hroom (by rw [hsize, hl, hcs, Nat.mul_one]; exact hroom)
    rw [hsize, Nat.mul_one] at hr
    refine ⟨_, _, hr, ⟨hlen, g, cap, _, fz, rfl, hbg, setRow_heap w g cur _ e _ hg, hfz, hroom, hcm, ?_, ?_⟩, ⟨rfl, rfl, rfl, by simp, fun k _ hk => setRow_other w g k _ (fun e => hk (by simp [Value.ownBlock, e]))⟩, .inl rfl⟩
    · simp only [List.size_toArray, List.length_append, List.length_take, List.length_drop, Array.length_toList]
      omega
    · rw [htake, ← hlen]
      exact List.take_left
  · have holds : ∀ j u, xs[j]? = some u → w.cell? ((⟨g, 0, none⟩ : Addr).add j) = some u := by
      intro j u hu
      have hadd : (⟨g, 0, none⟩ : Addr).add j = ⟨g, j, none⟩ := by unfold Addr.add; split <;> simp_all
      rw [hadd, cell_of_row w g j cur e fz hg]
      rw [← htake, List.getElem?_take] at hu
      split at hu
      · simpa using hu
      · cases hu
    have hr := run_append_grow (P := P) w t ty e i (.int .u8 0) ht hi hz ⟨g, 0, none⟩ n cap xs (by rw [hsize, hxl, Nat.mul_one]) holds a m c news hl' hnews (by omega) (by omega) (growslice_fits (by omega) (by rw [hby]; omega))
    have hge := grownCap_ge w (n + m) cap e
    have hcm2 : grownCap w (n + m) cap e ≤ maxLen := grownCap_le_maxLen w (n + m) cap e h63
    refine ⟨_, _, hr, ⟨hlen, w.heap.size, _, _, (0, 0), rfl, hbase, heap_alloc_new w.drew _, .inl rfl, hge, hcm2, ?_, ?_⟩, ⟨rfl, rfl, rfl, by simp, fun k hk _ => heap_alloc_old w.drew _ hk⟩, .inr ⟨_, rfl, Nat.le_refl _⟩⟩
    · simp only [Array.size_append, List.size_toArray, size_zeroCells, hxl, hl, Value.cells, List.size_toArray]
      simp
      omega
    · simp only [Array.toList_append, List.append_assoc]
      rw [← List.append_assoc, ← hlen]
      exact List.take_left
end
section
variable {P : Program} {ops : Array Oper} {o : Oper} {a : Act} {Q : Exit → Act → World → Prop} {Kc : Act → World → Prop}
theorem conv_step {w0 W : World} (base : Nat) (hw : Region.wanted o (yielded ops a.tmps) = true) (x : Operand) (src dst e : TypeId) (ho : o.op = .convert src dst x)
    (hs : P.underlying src = some .string) (hd : P.underlying dst = some (.slice e)) (he : P.underlying e = some (.int .u8)) (y : ByteArray) (ok : Nat → Prop) (hx : a.eval x = .string y)
    (hfresh : ∀ k, W.heap.size ≤ k → ok k) (HB : Below base w0 W) (hbase : base ≤ W.heap.size) (hl : y.size ≤ 140737488355328)
    (h : ∀ v1 w1, MR (Kd.int .u8) e w1 base ok v1 (bytesOf y) → Below base w0 w1 → W.grownBy w1 (Value.slice none 0 0).ownBlock → (v1.ownBlock = (Value.slice none 0 0).ownBlock ∨ ∃ b, v1.ownBlock = some b ∧ W.heap.size ≤ b) → Kc (a.put o.dst v1) w1) :
    if Region.wanted o (yielded ops a.tmps) = true then Oper.wp P o a W Kc Q else Kc (a.put o.dst undef) W := by
  have hr := run_bytes_of_string (P := P) W src dst e y hs hd he
  have hrun : (execOp a.eval o).run P W = .ok (.value (.slice (some ⟨W.heap.size, 0, none⟩) y.size (grownCap W y.size 0 e))) (W.drew.alloc (.cells (bytesRow y (grownCap W y.size 0 e)) e ((bytesRow y (grownCap W y.size 0 e)).size, (bytesRow y (grownCap W y.size 0 e)).size + 1))) := by
    unfold execOp
    simp only [ho, hx, Sem.run_bind, hr, Result.andThen_ok, Sem.run_pure]
  have hge := grownCap_ge W y.size 0 e
  have hle : grownCap W y.size 0 e ≤ maxLen := grownCap_le_maxLen W y.size 0 e (by simp only [maxLen]; omega)
  have hrs : (bytesRow y (grownCap W y.size 0 e)).size = grownCap W y.size 0 e := by
    have : y.data.size = y.size := rfl
    simp only [bytesRow, Array.size_append, Array.size_map, Array.size_replicate]
    omega
  refine event_step hw hrun (h _ _ ⟨fun k hk => ?_, ?_, W.heap.size, grownCap W y.size 0 e, _, _, by rw [bytesOf_length], hbase, heap_alloc_new W.drew _, .inr (by rw [hrs]; exact Nat.le_refl _), by rw [bytesOf_length]; exact hge, hle, hrs, ?_⟩ ((below_drew HB).alloc hbase _) ⟨rfl, rfl, rfl, by simp, fun k hk _ => heap_alloc_old W.drew _ hk⟩ (.inr ⟨_, rfl, Nat.le_refl _⟩))
  · have : W.heap.size = k := by simpa [Value.ownBlock] using hk
    subst this
    exact hfresh _ (Nat.le_refl _)
  · simp [nums]
  · have e1 : nums .u8 (bytesOf y) = (y.data.map (fun b => Value.int .u8 b.toNat)).toList := by simp [nums, bytesOf]
    rw [e1, bytesRow, Array.toList_append, bytesOf_length]
    have : y.size = (y.data.map (fun b => Value.int .u8 b.toNat)).toList.length := by simp
    rw [this]
    exact List.take_left
theorem M_append_rows_step (d : Kd Int) {Rr : Int → List Value → Prop} {w0 W : World} (base : Nat) (hw : Region.wanted o (yielded ops a.tmps) = true) (s x : Operand) (t e : TypeId)
    (ho : o.op = .call { callee := .builtin .append, args := #[s, x], argTypes := #[t, t] })
    (ht : P.underlying t = some (.slice e)) (hinfo : (P.info? e).map (fun i => (i.zero, i.size, i.bytes)) = some (some (.int .u8 0), 1, 1))
    (v : Value) (xs ys : List Int) (A : Option Addr) (m c : Nat) (ok : Nat → Prop) (hs : a.eval s = v) (hx : a.eval x = .slice A m c)
    (HO : MR d e W base ok v xs) (HR : (Kd.int .u8).C W A m ys) (hpos : 0 < m) (hfresh : ∀ k, W.heap.size ≤ k → ok k)
    (HB : Below base w0 W) (hbase : base ≤ W.heap.size) (hl : xs.length + m ≤ 140737488355328)
    (h : ∀ v1 w1, MR d e w1 base ok v1 (xs ++ ys) → Below base w0 w1 → W.grownBy w1 v.ownBlock → (v1.ownBlock = v.ownBlock ∨ ∃ b, v1.ownBlock = some b ∧ W.heap.size ≤ b) → Kc (a.put o.dst v1) w1) :
    if Region.wanted o (yielded ops a.tmps) = true then Oper.wp P o a W Kc Q else Kc (a.put o.dst undef) W := by
  obtain ⟨i0, hi, hzz⟩ := Option.map_eq_some_iff.1 hinfo
  simp only [Prod.mk.injEq] at hzz
  obtain ⟨hz0, hz1, hz2⟩ := hzz
  have hm : ys.length = m := HR.1
  obtain ⟨ad, rfl, hcells⟩ := HR.2.2 hpos
  have hnl : (nums .u8 ys).length = m := by simp [nums, hm]
  have hnews : ∀ j u, (nums .u8 ys)[j]? = some u → W.cell? (ad.add j) = some u := by
    intro j u hu
    simp only [nums, List.getElem?_map, Option.map_eq_some_iff] at hu
    obtain ⟨p, hp, rfl⟩ := hu
    obtain ⟨cs, hlc, hk, hc⟩ := hcells j p hp
    have hk' : cs = [.int .u8 p] := hk
    subst hk'
    have := hc 0 (.int .u8 p) rfl
    simpa [Kd.int, Kd.scalar] using this
  have hone : ∀ u ∈ nums .u8 ys, u.oneCell' = true := by
    intro u hu
    simp only [nums, List.mem_map] at hu
    obtain ⟨p, _, rfl⟩ := hu
    rfl
  obtain ⟨v1, w1, hrun, h2, hg, hat⟩ := run_append_M (P := P) W base t o.type e i0 ht hi hz0 hz1 hz2 v xs.length (nums .u8 xs) HO.2 ad m c (nums .u8 ys) hnl hnews hone (by simp only [maxLen]; omega) hl hbase
  have hrun' : (execOp a.eval o).run P W = .ok (.value v1) w1 := by
    unfold execOp
    simp only [ho, resolve, invoke, builtin, Sem.run_bind, Sem.run_pure, Result.andThen_ok, List.map_toArray, List.map_cons, List.map_nil, hs, hx, hrun]
  refine event_step hw hrun' (h v1 w1 ⟨fun k hk => ?_, ?_⟩ (HB.grown hg hbase (fun k hk => M_base HO k hk)) hg hat)
  · rcases hat with e1 | ⟨b, e1, hb⟩
    · exact HO.1 k (e1 ▸ hk)
    · rw [e1] at hk
      injection hk with hk
      exact hfresh k (hk ▸ hb)
  · have : nums .u8 (xs ++ ys) = nums .u8 xs ++ nums .u8 ys := nums_append _ _ _
    rw [this, List.length_append, hm]
    exact h2
end

end Go.Proofs.YtndpbbgniflckaaDoor.HW
