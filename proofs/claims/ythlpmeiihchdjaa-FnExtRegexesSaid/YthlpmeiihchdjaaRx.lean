/- Walks by hand of functions of this seat. Conditions: as each theorem states them. -/
import Derived.Test.YthlpmeiihchdjaaProg
import Derived.Test.YthlpmeiihchdjaaHW
import Derived.Below
import Derived.Deep.Draws
import Derived.OwnWalk
import Derived.Tactics
import Derived.WalkKit
import Derived.KernelRfl
import Derived.RowKit3
import Derived.Deep.LoopGhost
import Derived.Deep.QuietTactic
import Derived.BigQuiet
import Derived.WideLaws
import Derived.Deep.DeepCutAuto
import Derived.Deep.CutBlock
import Derived.Laws.Rows
import Derived.Outline
import Derived.StillTailTactics
import Derived.Deep.RegionHeld3
import Derived.Test.YthlpmeiihchdjaaPRx0
import Derived.Deep.RegionWith
import Derived.Test.YthlpmeiihchdjaaPL
namespace Go.Proofs.Ythlpmeiihchdjaa.Rx
open Go.RowKit Go.Proofs.YthlpmeiihchdjaaW.PrintWords Go.Proofs.YthlpmeiihchdjaaW.PrintLast Go.Proofs.YthlpmeiihchdjaaW.PrintMore
set_option linter.unusedVariables false
set_option linter.unusedSimpArgs false
open Go.Lib Go.Proofs.Ythlpmeiihchdjaa.PR Go.Proofs.Ythlpmeiihchdjaa.PL
theorem info94 : (Try.prog.info? 94).map (fun i => (i.zero, i.size, i.bytes)) = some (some (.pointer none), 1, 8) := by kernel_rfl
def encP (g : Nat) : Value := .pointer (some ⟨g, 0, none⟩)
/-- The values of an object: strings. -/
def Vals (w : World) (T : List ByteArray) (P : List Nat) : Prop := P.length = T.length ∧ ∀ (j g : Nat) (s : ByteArray), P[j]? = some g → T[j]? = some s → w.heap[g]? = some (Obj.cells #[.int .u8 2, .iface 9 (.string s)] 117 (0, 0))
def ZObj (w : World) (B : Nat) (K : Value) (T : List ByteArray) (g : Nat) : Prop := ∃ o P V, w.heap[g]? = some (Obj.cells #[.int .u8 3, .iface 112 (.pointer (some ⟨o, 0, none⟩))] 117 (0, 0)) ∧ w.heap[o]? = some (Obj.cells #[K, V] 115 (0, 0)) ∧ w.ownsRow B 94 1 V P.length (P.map encP) ∧ Vals w T P
theorem own_step {w w1 : World} {B : Nat} {e : TypeId} {z n : Nat} {v : Value} {xs : List Value} (h : w.ownsRow B e z v n xs) (hm : ∀ k, v.ownBlock = some k → w1.heap[k]? = w.heap[k]?) : w1.ownsRow B e z v n xs := by
  obtain ⟨h1, h2⟩ := h
  refine ⟨h1, ?_⟩
  rcases h2 with h2 | ⟨g, cap, cur, rfl, hb, hh, r⟩
  · exact .inl h2
  · exact .inr ⟨g, cap, cur, rfl, hb, (hm g rfl).trans hh, r⟩
theorem own_ne_blk {w : World} {B n g : Nat} {e t : TypeId} {z : Nat} {v : Value} {xs : List Value} {cs : Array Value} (h : w.ownsRow B e z v n xs) (hg : w.heap[g]? = some (Obj.cells cs t (0, 0))) (hne : e ≠ t) : some g ≠ v.ownBlock := by
  intro he
  obtain ⟨cells, hc⟩ := own_typed h g he.symm
  exact blk_ne hc hg hne rfl
theorem own_slice {w : World} {B : Nat} {e : TypeId} {z n : Nat} {v : Value} {xs : List Value} (h : w.ownsRow B e z v n xs) : ∃ A c, v = .slice A n c := by
  rcases h.2 with ⟨rfl, rfl⟩ | ⟨g, cap, cur, rfl, _⟩
  · exact ⟨_, _, rfl⟩
  · exact ⟨_, _, rfl⟩
theorem Vals.step {w w1 : World} {T : List ByteArray} {P : List Nat} (h : Vals w T P) (hm : ∀ (g : Nat) (cs : Array Value), w.heap[g]? = some (Obj.cells cs 117 (0, 0)) → w1.heap[g]? = w.heap[g]?) : Vals w1 T P :=
  ⟨h.1, fun j g s hp ht => (hm g _ (h.2 j g s hp ht)).trans (h.2 j g s hp ht)⟩
theorem Vals.snoc {w : World} {T : List ByteArray} {P : List Nat} (h : Vals w T P) {g : Nat} {s : ByteArray} (hg : w.heap[g]? = some (Obj.cells #[.int .u8 2, .iface 9 (.string s)] 117 (0, 0))) : Vals w (T ++ [s]) (P ++ [g]) := by
  refine ⟨by simp [h.1], fun j g' s' hp ht => ?_⟩
  by_cases hj : j < P.length
  · rw [List.getElem?_append_left hj] at hp
    rw [List.getElem?_append_left (by rw [← h.1]; exact hj)] at ht
    exact h.2 j g' s' hp ht
  · have hl : j < (P ++ [g]).length := (List.getElem?_eq_some_iff.1 hp).1
    obtain rfl : j = P.length := by simp at hl; omega
    rw [List.getElem?_append_right (Nat.le_refl _)] at hp
    rw [h.1, List.getElem?_append_right (Nat.le_refl _)] at ht
    simp at hp ht
    subst hp
    subst ht
    exact hg
set_option maxHeartbeats 4000000 in
set_option maxRecDepth 100000 in
theorem zz_any (A0 : Option Addr) (n0 c0 : Nat) (A1 : Option Addr) (c1 : Nat) (T : List ByteArray) (w : World) (hr : Kd.C Kd.string w A1 T.length T) (hT : T.length ≤ 1000) :
    Calls Try.prog 61 #[.slice A0 n0 c0, .slice A1 T.length c1] w fun e w' => ∃ g, e = .returned (.pointer (some ⟨g, 0, none⟩)) ∧ ZObj w' w.heap.size (.slice A0 n0 c0) T g ∧ Below w.heap.size w w' := by
  have HR := Aside0.mk (Kd.reads_of_C (enc := Value.string) (d := ByteArray.empty) (h1 := fun _ => rfl) hr)
  clear hr
  go_enter Try.func61, Try.ntmps61
  go_wp2
  go_loopw [13] (fun i wr => ∃ (k : Nat) (P : List Nat) (V : Value), i = .int .i64 k ∧ k ≤ T.length ∧ Aside0 (wr.heap[w.heap.size]? = some (Obj.cells #[.slice A0 n0 c0, V] 115 (0, 0))) ∧ Aside0 (wr.ownsRow w.heap.size 94 1 V P.length (P.map encP)) ∧ Aside0 (Vals wr (T.take k) P) ∧ Aside0 (Below w.heap.size w wr)) (fun i _ => T.length - (Go.RowKit.intOf i).toNat)
  case atStart => exact ⟨0, [], .slice none 0 0, rfl, Nat.zero_le _, ⟨blk_new _ _⟩, ⟨⟨rfl, .inl ⟨rfl, rfl⟩⟩⟩, ⟨⟨rfl, fun j g s hp => by simp at hp⟩⟩, ⟨(Below.refl _ w).alloc (Nat.le_refl _) _⟩⟩
  case round =>
    obtain ⟨k, P, V, rfl, hk, hO, hR, hV, hB⟩ := hrel
    by_cases hlt : k < T.length
    · obtain ⟨ad, rfl, hat⟩ := HR.out.2.2 (by omega)
      have hc := (hB.out.cell (p := ad.add k) (World.block_lt_of_cell? w _ (hat k hlt))).trans (hat k hlt)
      have hx : T.getD k ByteArray.empty = T[k] := by rw [List.getD_eq_getElem?_getD, List.getElem?_eq_getElem hlt]; rfl
      rw [hx] at hc
      have HX := Aside0.mk hx
      have x1 : wr.cell? ⟨w.heap.size, 1, none⟩ = some V := (blk_cell hO.out 1).trans rfl
      have hLT : k + 1 ≤ 1000 := by omega
      have hPl : P.length = k := by rw [hV.out.1, List.length_take]; omega
      have HPl := Aside0.mk hPl
      have HL : (P.map encP).length + 1 ≤ 1000 := by rw [List.length_map]; omega
      have hne : some w.heap.size ≠ V.ownBlock := own_ne_blk hR.out hO.out (by decide)
      have HNE := Aside0.mk hne
      have HR2 : Aside0 (wr.ownsRow w.heap.size 94 1 V (P.map encP).length (P.map encP)) := ⟨by rw [List.length_map]; exact hR.out⟩
      have HSZ : Aside0 (w.heap.size < wr.heap.size) := ⟨blk_lt hO.out⟩
      clear hat hx hPl hne
      go_wp2_with (at_builtin; go_loud (refine print_append (w0 := w) w.heap.size rfl (.tmp 21) (.tmp 26) 113 94 (.pointer none) 8 rfl Try.underlying113 info94 rfl (by decide) V (P.map encP) (.pointer (some ⟨wr.heap.size, 0, none⟩)) rfl ?aX rfl (HR2.out.alloc _) (below_alloc hB.out _) ?aS ?aL ?_; (case aX => simp only [World.size_alloc]; rfl); (case aS => have := HSZ.out; simp; omega); (case aL => omega); intro v1 w1 hown hB1 hg hat; rw [show ((P.map encP) ++ [Value.pointer (some ⟨wr.heap.size, 0, none⟩)]).length = P.length + 1 by simp] at hown; obtain ⟨A3, c3, rfl⟩ := own_slice hown; have hO1 := blk_grown (blk_alloc hO.out _) hg HNE.out; have y1 : w1.cell? ⟨w.heap.size, 1, none⟩ = some V := (blk_cell hO1 1).trans rfl; have f1 := blk_frozen hO1 1; have HO1 := Aside0.mk hO1; have HB1 := Aside0.mk hB1; have HG := Aside0.mk hg; have HOWN := Aside0.mk hown; clear hO1 hB1 hg hown hat))
      go_roundw
      case rel =>
        obtain ⟨v1, hv1⟩ : ∃ v1, v1 = Value.slice A3 (P.length + 1) c3 := ⟨_, rfl⟩
        rw [← hv1] at HOWN ⊢
        have hV1 : Vals w1 (T.take k) P := Vals.step hV.out (fun g cs hgc => by
          have h2 := blk_alloc hgc (.cells #[.int .u8 2, .iface 9 (.string T[k])] 117)
          exact ((blk_grown h2 HG.out (fun he => by
            obtain ⟨cells, hc⟩ := own_typed (HR2.out.alloc (.cells #[.int .u8 2, .iface 9 (.string T[k])] 117)) g he.symm
            exact blk_ne hc h2 (by decide) rfl))).trans hgc.symm)
        have hnew := blk_grown (blk_new wr (.cells #[.int .u8 2, .iface 9 (.string T[k])] 117)) HG.out (fun he => by
            have := own_lt HR2.out _ he.symm
            omega)
        have hV2 := hV1.snoc hnew
        have ht : T.take k ++ [T[k]] = T.take (k + 1) := (List.take_succ_eq_append_getElem hlt).symm
        rw [ht] at hV2
        have hne1 : some w.heap.size ≠ v1.ownBlock := own_ne_blk HOWN.out HO1.out (by decide)
        have hs : ∀ g, g ≠ w.heap.size → (w1.setCell ⟨w.heap.size, 1, none⟩ v1).heap[g]? = w1.heap[g]? := fun g hg => Below.heap_setCell w1 _ v1 g hg
        refine ⟨k + 1, P ++ [wr.heap.size], v1, by go_num, by omega, ⟨blk_put HO1.out 1 v1 rfl⟩, ⟨?_⟩, ⟨hV2.step (fun g cs hgc => hs g (fun e => blk_ne hgc HO1.out (by decide) e))⟩, ⟨HB1.out.setCell (Nat.le_refl _) v1⟩⟩
        have := own_step HOWN.out (w1 := w1.setCell ⟨w.heap.size, 1, none⟩ v1) (fun g hgo => hs g (fun e => hne1 (by rw [hgo, e])))
        simp only [List.map_append, List.length_append, List.map_cons, List.map_nil, List.length_cons, List.length_nil]
        exact this
      case measure => simp [Go.RowKit.intOf]; omega
    · obtain rfl : k = T.length := by omega
      go_wp2
      go_ret
      rw [List.take_length] at hV
      exact ⟨wr.heap.size, rfl, ⟨w.heap.size, P, V, blk_new _ _, blk_alloc hO.out _, hR.out.alloc _, hV.out.step (fun g cs hgc => (blk_alloc hgc _).trans hgc.symm)⟩, hB.out.alloc (Nat.le_of_lt (blk_lt hO.out)) _⟩

theorem own_read {w : World} {B : Nat} {v : Value} {xs : List Value} (h : w.ownsRow B 94 1 v xs.length xs) (hp : 0 < xs.length) : ∃ gv c, v = .slice (some ⟨gv, 0, none⟩) xs.length c ∧ ∀ j x, xs[j]? = some x → w.cell? ⟨gv, j, none⟩ = some x := by
  rcases h.2 with ⟨_, h0⟩ | ⟨g, cap, cur, rfl, hb, hh, hn, hm, hz, ht⟩
  · omega
  · refine ⟨g, cap, rfl, fun j x hj => ?_⟩
    rw [blk_cell hh j]
    rw [← ht, Nat.mul_one] at hj
    rw [List.getElem?_take] at hj
    split at hj
    · rw [← Array.getElem?_toList]; exact hj
    · cases hj
def pat : ByteArray := ⟨#[112, 97, 116, 116, 101, 114, 110]⟩
def opt : ByteArray := ⟨#[111, 112, 116, 105, 111, 110, 115]⟩
/-- What the members are read as: the pattern and the options, or none. -/
def rxl : List (ByteArray × ByteArray) → Bool → Bool → ByteArray → ByteArray → Option (ByteArray × ByteArray)
  | [], pf, of, a, b => if pf = true then if of = true then some (a, b) else none else none
  | (n, t) :: r, pf, of, a, b => if (n.toList == [112, 97, 116, 116, 101, 114, 110]) = true then if pf = true then none else rxl r true of t b else if (n.toList == [111, 112, 116, 105, 111, 110, 115]) = true then if of = true then none else rxl r pf true a t else none
def RxOut (x : Option (ByteArray × ByteArray)) (w : World) (e : Ending) (w' : World) : Prop := (∃ a b ev, e = .returned (.tuple #[.string a, .string b, ev]) ∧ (ev = .nilIface ∧ x = some (a, b) ∨ (∃ p, ev = .iface 105 (.pointer (some p))) ∧ x = none)) ∧ Below w.heap.size w w'
set_option maxHeartbeats 4000000 in
set_option maxRecDepth 100000 in
theorem parse_any (A0 : Option Addr) (c0 : Nat) (N T : List ByteArray) (B g : Nat) (w : World) (hl : N.length = T.length) (hr : Kd.C Kd.string w A0 N.length N) (hN : N.length ≤ 1000) (hz : ZObj w B (.slice A0 N.length c0) T g) :
    Calls Try.prog 62 #[.pointer (some ⟨g, 0, none⟩)] w (RxOut (rxl (N.zip T) false false ⟨#[]⟩ ⟨#[]⟩) w) := by
  obtain ⟨o, P, V, h1, h2, h3, h4⟩ := hz
  have HR := Aside0.mk (Kd.reads_of_C (enc := Value.string) (d := ByteArray.empty) (h1 := fun _ => rfl) hr)
  have hta : ∀ W, (Instr.typeAssert (.iface 112 (.pointer (some ⟨o, 0, none⟩))) 20 112 false).run Try.prog W = .ok (.pointer (some ⟨o, 0, none⟩)) W := fun W => by kernel_rfl
  have a0 : w.cell? ⟨g, 0, none⟩ = some (.int .u8 3) := (blk_cell h1 0).trans rfl
  have a1 : w.cell? ⟨g, 1, none⟩ = some (.iface 112 (.pointer (some ⟨o, 0, none⟩))) := (blk_cell h1 1).trans rfl
  have hPN : P.length = N.length := h4.1.trans hl.symm
  obtain ⟨VA, vc, rfl⟩ := own_slice h3
  rw [hPN] at h2 h3
  have b1 : w.cell? ⟨o, 1, none⟩ = some (.slice VA N.length vc) := (blk_cell h2 1).trans rfl
  have b0 : w.cell? ⟨o, 0, none⟩ = some (.slice A0 N.length c0) := (blk_cell h2 0).trans rfl
  have H3 : Aside0 (w.ownsRow B 94 1 (.slice VA N.length vc) (P.map encP).length (P.map encP)) := ⟨by rw [List.length_map, hPN]; exact h3⟩
  have H4 := Aside0.mk h4
  have HL := Aside0.mk hl
  have HPN := Aside0.mk hPN
  have hts : ∀ s W, (Instr.typeAssert (.iface 9 (.string s)) 20 9 false).run Try.prog W = .ok (.string s) W := fun s W => by kernel_rfl
  clear h1 h2 h3 h4 hr hl hPN
  go_enter Try.func62, Try.ntmps62
  go_wp2
  go_loop [2, 3, 6, 7, 27] (fun a b pf of i => ∃ (k : Nat) (x y : ByteArray) (p q : Bool), a = .string x ∧ b = .string y ∧ pf = .bool p ∧ of = .bool q ∧ i = .int .i64 k ∧ k ≤ N.length ∧ Aside0 (rxl ((N.zip T).drop k) p q x y = rxl (N.zip T) false false ⟨#[]⟩ ⟨#[]⟩)) (fun _ _ _ _ i => N.length - (Go.RowKit.intOf i).toNat)
  case atStart => exact ⟨0, _, _, _, _, rfl, rfl, rfl, rfl, rfl, Nat.zero_le _, ⟨rfl⟩⟩
  case round =>
    obtain ⟨k, x, y, p, q, rfl, rfl, rfl, rfl, rfl, hk, hx⟩ := hrel
    by_cases hlt : k < N.length
    · obtain ⟨ad, rfl, hat⟩ := HR.out.2.2 (by omega)
      obtain ⟨gv, c3, hv, hcell⟩ := own_read H3.out (by rw [List.length_map, HPN.out]; omega)
      injection hv with hv1 hv2 hv3
      subst hv1
      have hkT : k < T.length := by rw [← HL.out]; exact hlt
      have hkP : k < P.length := by rw [HPN.out]; exact hlt
      have hc := hat k hlt
      rw [show N.getD k ByteArray.empty = N[k] by rw [List.getD_eq_getElem?_getD, List.getElem?_eq_getElem hlt]; rfl] at hc
      have hcv := hcell k (encP P[k]) (by rw [List.getElem?_map, List.getElem?_eq_getElem hkP]; rfl)
      have hb := H4.out.2 k P[k] T[k] (List.getElem?_eq_getElem hkP) (List.getElem?_eq_getElem hkT)
      have hd : (N.zip T).drop k = (N[k], T[k]) :: (N.zip T).drop (k + 1) := by
        rw [List.drop_eq_getElem_cons (by rw [List.length_zip]; omega)]
        rw [List.getElem_zip]
      rw [hd] at hx
      have e0 := (blk_cell hb 0).trans rfl
      have e1 := (blk_cell hb 1).trans rfl
      unfold encP at hcv
      clear hat hcell hb hd hv2 hv3
      generalize N[k] = n at hc hx
      generalize T[k] = t at e1 hx
      generalize P[k] = pg at hcv e0 e1
      have HX := Aside0.mk hx.out
      clear hx
      go_wp2
      · have h1 : (n.toList == [112, 97, 116, 116, 101, 114, 110]) = true := by assumption
        have hp : p = true := by assumption
        have hR : rxl (N.zip T) false false ⟨#[]⟩ ⟨#[]⟩ = none := by rw [← HX.out]; simp only [rxl]; rw [if_pos h1, if_pos hp]
        go_ret3
        exact ⟨⟨_, _, _, rfl, .inr ⟨⟨_, rfl⟩, hR⟩⟩, (Below.refl _ w).alloc (Nat.le_refl _) _⟩
      · have h1 : (n.toList == [112, 97, 116, 116, 101, 114, 110]) = true := by assumption
        have hp : p = false := by assumption
        go_round
        case rel => exact ⟨k + 1, _, _, _, _, rfl, rfl, rfl, rfl, by go_num, by omega, ⟨by rw [← HX.out]; conv => rhs; simp only [rxl]; rw [if_pos h1, if_neg (by rw [hp]; decide)]⟩⟩
        case measure => simp [Go.RowKit.intOf]; omega
      · have h1 : (n.toList == [112, 97, 116, 116, 101, 114, 110]) = false := by assumption
        have h2 : (n.toList == [111, 112, 116, 105, 111, 110, 115]) = true := by assumption
        have hp : q = true := by assumption
        have hR : rxl (N.zip T) false false ⟨#[]⟩ ⟨#[]⟩ = none := by rw [← HX.out]; simp only [rxl]; rw [if_neg (by rw [h1]; decide), if_pos h2, if_pos hp]
        go_ret3
        exact ⟨⟨_, _, _, rfl, .inr ⟨⟨_, rfl⟩, hR⟩⟩, (Below.refl _ w).alloc (Nat.le_refl _) _⟩
      · have h1 : (n.toList == [112, 97, 116, 116, 101, 114, 110]) = false := by assumption
        have h2 : (n.toList == [111, 112, 116, 105, 111, 110, 115]) = true := by assumption
        have hp : q = false := by assumption
        go_round
        case rel => exact ⟨k + 1, _, _, _, _, rfl, rfl, rfl, rfl, by go_num, by omega, ⟨by rw [← HX.out]; conv => rhs; simp only [rxl]; rw [if_neg (by rw [h1]; decide), if_pos h2, if_neg (by rw [hp]; decide)]⟩⟩
        case measure => simp [Go.RowKit.intOf]; omega
      · have h1 : (n.toList == [112, 97, 116, 116, 101, 114, 110]) = false := by assumption
        have h2 : (n.toList == [111, 112, 116, 105, 111, 110, 115]) = false := by assumption
        have hR : rxl (N.zip T) false false ⟨#[]⟩ ⟨#[]⟩ = none := by rw [← HX.out]; simp only [rxl]; rw [if_neg (by rw [h1]; decide), if_neg (by rw [h2]; decide)]
        go_ret3
        exact ⟨⟨_, _, _, rfl, .inr ⟨⟨_, rfl⟩, hR⟩⟩, (Below.refl _ w).alloc (Nat.le_refl _) _⟩
    · obtain rfl : k = N.length := by omega
      have hd : (N.zip T).drop N.length = [] := List.drop_eq_nil_of_le (by rw [List.length_zip]; omega)
      rw [hd] at hx
      have HX := Aside0.mk hx.out
      clear hx hd
      go_wp2
      · have h1 : (!p) = true := by assumption
        have hp : p = false := by simpa using h1
        have hR : rxl (N.zip T) false false ⟨#[]⟩ ⟨#[]⟩ = none := by rw [← HX.out]; simp only [rxl]; rw [if_neg (by rw [hp]; decide)]
        go_ret3
        exact ⟨⟨_, _, _, rfl, .inr ⟨⟨_, rfl⟩, hR⟩⟩, (Below.refl _ w).alloc (Nat.le_refl _) _⟩
      · have h1 : (!p) = false := by assumption
        have h2 : (!q) = true := by assumption
        have hp : p = true := by simpa using h1
        have hq : q = false := by simpa using h2
        have hR : rxl (N.zip T) false false ⟨#[]⟩ ⟨#[]⟩ = none := by rw [← HX.out]; simp only [rxl]; rw [if_pos hp, if_neg (by rw [hq]; decide)]
        go_ret3
        exact ⟨⟨_, _, _, rfl, .inr ⟨⟨_, rfl⟩, hR⟩⟩, (Below.refl _ w).alloc (Nat.le_refl _) _⟩
      · have h1 : (!p) = false := by assumption
        have h2 : (!q) = false := by assumption
        have hp : p = true := by simpa using h1
        have hq : q = true := by simpa using h2
        have hR : rxl (N.zip T) false false ⟨#[]⟩ ⟨#[]⟩ = some (x, y) := by rw [← HX.out]; simp only [rxl]; rw [if_pos hp, if_pos hq]
        go_ret3
        exact ⟨⟨_, _, _, rfl, .inl ⟨rfl, hR⟩⟩, Below.refl _ w⟩

set_option maxHeartbeats 4000000 in
set_option maxRecDepth 100000 in
theorem zzr_any (A0 : Option Addr) (c0 : Nat) (A1 : Option Addr) (c1 : Nat) (N T : List ByteArray) (w : World) (hl : N.length = T.length) (hN : N.length ≤ 1000) (hr : Kd.C Kd.string w A0 N.length N) (hr1 : Kd.C Kd.string w A1 T.length T) :
    Calls Try.prog 42 #[.slice A0 N.length c0, .slice A1 T.length c1] w (RxOut (rxl (N.zip T) false false ⟨#[]⟩ ⟨#[]⟩) w) := by
  have HR := Aside0.mk hr
  have HR1 := Aside0.mk hr1
  have HL := Aside0.mk hl
  clear hr hr1 hl
  go_enter Try.func42, Try.ntmps42
  go_wp2_with (first | (go_at_call 61; refine (zz_any A0 N.length c0 A1 c1 T _ HR1.out (by rw [← HL.out]; exact hN)).mono ?_; rintro e w1 ⟨g, rfl, hz, hB1⟩; have HZ := Aside0.mk hz; have HB1 := Aside0.mk hB1; clear hz hB1) | (go_at_call 62; refine (parse_any A0 c0 N T _ g _ HL.out (Kd.C_below HR.out HB1.out) hN HZ.out).mono ?_; rintro e w2 ⟨⟨a, b, ev, rfl, hev⟩, hB2⟩; have HB2 := Aside0.mk hB2; have HE := Aside0.mk hev; clear hev hB2))
  go_ret3
  exact ⟨⟨a, b, ev, rfl, HE.out⟩, HB1.out.trans (HB2.out.mono HB1.out.size)⟩
def rxVal : Option (ByteArray × ByteArray) → Int × ByteArray × ByteArray × Bool
  | some (a, b) => (11, a, b, true)
  | none => (0, ⟨#[]⟩, ⟨#[]⟩, false)
def rxRet (x : Option (ByteArray × ByteArray)) : Value := .tuple #[.agg #[.int .i64 (rxVal x).1, .string (rxVal x).2.1, .string (rxVal x).2.2.1, .int .i64 0, .int .u64 0, .int .u64 0, .slice none 0 0, .slice none 0 0], .bool (rxVal x).2.2.2]
set_option maxHeartbeats 4000000 in
set_option maxRecDepth 100000 in
theorem ext_any (A0 : Option Addr) (c0 : Nat) (A1 : Option Addr) (c1 : Nat) (N T : List ByteArray) (w : World) (hl : N.length = T.length) (hN : N.length ≤ 1000) (hr : Kd.C Kd.string w A0 N.length N) (hr1 : Kd.C Kd.string w A1 T.length T) :
    Calls Try.prog 20 #[.slice A0 N.length c0, .slice A1 T.length c1] w fun e w' => e = .returned (rxRet (rxl (N.zip T) false false ⟨#[]⟩ ⟨#[]⟩)) ∧ Below w.heap.size w w' := by
  have HR := Aside0.mk hr
  have HR1 := Aside0.mk hr1
  have HL := Aside0.mk hl
  have hle : ((N.length : Int) == (T.length : Int)) = true := by rw [hl]; simp
  have hneq := fun (x : Value) (W : World) => run_neq_held_nil (P := Try.prog) W 65 105 x (by kernel_rfl)
  have B0 : ∀ o, Below w.heap.size w (w.alloc o) := fun o => (Below.refl _ w).alloc (Nat.le_refl _) o
  clear hr hr1 hl
  go_enter Try.func20, Try.ntmps20
  go_wp2_with (first | (go_at_call 42; refine (zzr_any A0 c0 A1 c1 N T _ HL.out hN (Kd.C_below HR.out (B0 _)) (Kd.C_below HR1.out (B0 _))).mono ?_; rintro e w2 ⟨⟨a, b, ev, rfl, hev⟩, hB2⟩; have hz := blk_below (blk_new w _) hB2; have HB2 := Aside0.mk hB2; have HE := Aside0.mk hev; have HZ := Aside0.mk hz; clear hev hB2 hz))
  rcases HE.out with ⟨rfl, hgood⟩ | ⟨⟨pp, rfl⟩, hgood⟩
  all_goals
    have HG := Aside0.mk hgood
    clear hgood
    have y0 := blk_cell HZ.out 0
    have f0 := blk_frozen HZ.out 0
    have y1 := blk_cell HZ.out 1
    have f1 := blk_frozen HZ.out 1
    have y2 := blk_cell HZ.out 2
    have f2 := blk_frozen HZ.out 2
    have y3 := blk_cell HZ.out 3
    have f3 := blk_frozen HZ.out 3
    have y4 := blk_cell HZ.out 4
    have f4 := blk_frozen HZ.out 4
    have y5 := blk_cell HZ.out 5
    have f5 := blk_frozen HZ.out 5
    have y6 := blk_cell HZ.out 6
    have f6 := blk_frozen HZ.out 6
    have y7 := blk_cell HZ.out 7
    have f7 := blk_frozen HZ.out 7
    simp only [List.getElem?_toArray, List.getElem?_cons_zero, List.getElem?_cons_succ] at y0 y1 y2 y3 y4 y5 y6 y7
  · go_wp2
    refine bodyPost_ret (v := .tuple #[.agg #[.int .i64 11, .string a, .string b, .int .i64 0, .int .u64 0, .int .u64 0, .slice none 0 0, .slice none 0 0], .bool true]) ?_ rfl ?_
    · simp [results, Try.results20, go_sem, y0, y1, y2, y3, y4, y5, y6, y7]
    · refine ⟨by rw [HG.out]; rfl, ?_⟩
      exact ((((((((((B0 _).trans (HB2.out.mono (by simp))).setCell (p := ⟨w.heap.size, 0, none⟩) (Nat.le_refl _) (.int .i64 11)).setCell (p := ⟨w.heap.size, 1, none⟩) (Nat.le_refl _) (.string a)).setCell (p := ⟨w.heap.size, 2, none⟩) (Nat.le_refl _) (.string b)).setCell (p := ⟨w.heap.size, 3, none⟩) (Nat.le_refl _) (.int .i64 0)).setCell (p := ⟨w.heap.size, 4, none⟩) (Nat.le_refl _) (.int .u64 0)).setCell (p := ⟨w.heap.size, 5, none⟩) (Nat.le_refl _) (.int .u64 0)).setCell (p := ⟨w.heap.size, 6, none⟩) (Nat.le_refl _) (.slice none 0 0)).setCell (p := ⟨w.heap.size, 7, none⟩) (Nat.le_refl _) (.slice none 0 0))
  · rw [eqGuard_at_iface]
    go_simp
    go_wp2
    refine bodyPost_ret (v := .tuple #[.agg #[.int .i64 0, .string ⟨#[]⟩, .string ⟨#[]⟩, .int .i64 0, .int .u64 0, .int .u64 0, .slice none 0 0, .slice none 0 0], .bool false]) ?_ rfl ?_
    · simp [results, Try.results20, go_sem, y0, y1, y2, y3, y4, y5, y6, y7]
    · refine ⟨by rw [HG.out]; rfl, ?_⟩
      exact ((((((((((B0 _).trans (HB2.out.mono (by simp))).setCell (p := ⟨w.heap.size, 0, none⟩) (Nat.le_refl _) (.int .i64 0)).setCell (p := ⟨w.heap.size, 1, none⟩) (Nat.le_refl _) (.string ⟨#[]⟩)).setCell (p := ⟨w.heap.size, 2, none⟩) (Nat.le_refl _) (.string ⟨#[]⟩)).setCell (p := ⟨w.heap.size, 3, none⟩) (Nat.le_refl _) (.int .i64 0)).setCell (p := ⟨w.heap.size, 4, none⟩) (Nat.le_refl _) (.int .u64 0)).setCell (p := ⟨w.heap.size, 5, none⟩) (Nat.le_refl _) (.int .u64 0)).setCell (p := ⟨w.heap.size, 6, none⟩) (Nat.le_refl _) (.slice none 0 0)).setCell (p := ⟨w.heap.size, 7, none⟩) (Nat.le_refl _) (.slice none 0 0))

end Go.Proofs.Ythlpmeiihchdjaa.Rx
