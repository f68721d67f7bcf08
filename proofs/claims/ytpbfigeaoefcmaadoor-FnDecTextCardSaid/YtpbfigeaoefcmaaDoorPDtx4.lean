/- Printed by a program of this session (a turned copy of the printer of the kit): contracts of functions of the translation, each with the Lean function that it computes. Conditions: as each theorem states them. -/
import Derived.Test.YtpbfigeaoefcmaaDoorPDtx0
import Derived.Test.YtpbfigeaoefcmaaDoorPDtx3
namespace Go.Proofs.YtpbfigeaoefcmaaDoor.PDt
open Go.RowKit Go.Proofs.YtpbfigeaoefcmaaDoorW.PrintWords Go.Proofs.YtpbfigeaoefcmaaDoorW.PrintLast Go.Proofs.YtpbfigeaoefcmaaDoorW.PrintMore
attribute [local go_sem] max2_int min2_int max_two min_two max_three min_three max_four min_four   -- for this text's walks alone
set_option linter.unusedVariables false
set_option linter.unusedSimpArgs false

/-! ### decimal128_String: function 15 -/
/-- What the loops of the text of a decimal keep: the exponent, what is left of the coefficient, the place that was written last, the first place in use, the point's place, nine digits that are to be written, the places. -/
structure DSt where
  exp : Int
  hi : Int
  lo : Int
  last : Int
  i : Int
  dot : Int
  rem : Int
  row : List Int
/-- A place is written. -/
def DSt.put (s : DSt) (v : Int) : Option DSt := if 0 ≤ s.i ∧ s.i < 48 then some { s with row := s.row.set s.i.toNat v } else none
/-- Whether the point is to be written. -/
def DSt.point (s : DSt) : Bool := decide (s.i < 48) && (s.dot == s.i || ((s.lo == 0) && (s.hi == 0) && decide (s.rem > 0) && decide (s.rem < 10) && (decide (s.dot < wrap64 (s.i - 6)) || decide (s.exp > 0))))
/-- The point, if it is to be written. -/
def DSt.dotted (s : DSt) : Option DSt := if s.point = true then ({ s with exp := wrap64 (s.exp + wrap64 (48 - s.i)), i := wrap64 (s.i - 1) } : DSt).put 46 |>.map fun s => { s with last := wrap64 (s.i - 1), dot := 48 } else some s
/-- The digit that is to be written. -/
def DSt.c (s : DSt) : Int := (48 + s.rem.tmod 10) % 256
/-- A digit. -/
def DSt.digit (s : DSt) : Option DSt := ({ s with rem := s.rem.tdiv 10 % 4294967296, i := wrap64 (s.i - 1) } : DSt).put s.c
/-- Whether it is a lone digit with an exponent. -/
def DSt.lone (s : DSt) : Bool := (s.lo == 0) && (s.hi == 0) && (s.rem == 0) && (s.i == 47) && (decide (s.dot < wrap64 (s.i - 5)) || decide (s.exp > 0))
/-- Whether all is written. -/
def DSt.full (s : DSt) : Bool := decide (s.dot > s.i) && (s.lo == 0) && (s.hi == 0) && (s.rem == 0)
/-- Behind a digit: the state, and whether the loops are left. -/
def DSt.after (c : Int) (s : DSt) : DSt × Bool := if s.lone = true then ({ s with last := s.i }, true) else (if (c != 48) = true then { s with last := s.i } else s, s.full)
/-- An inner round: the state, and whether the loops are left. -/
def DSt.round (s : DSt) : Option (DSt × Bool) := s.dotted.bind fun s => s.digit.map (DSt.after s.c)
/-- The inner loop. -/
def DSt.inner : Nat → DSt → Option (DSt × Bool)
  | 0, s => some (s, false)
  | n + 1, s => s.round.bind fun r => if r.2 = true then some r else DSt.inner n r.1
/-- The outer loop. -/
def DSt.outer : Nat → DSt → Option DSt
  | 0, s => some s
  | n + 1, s => (decimal128_divmod.f s.hi s.lo 1000000000).bind fun d =>
    (DSt.inner 9 { s with hi := d.1, lo := d.2.1, rem := d.2.2 }).bind fun r => if r.2 = true then some r.1 else DSt.outer n r.1
/-- What is written of the places. -/
def DSt.text (p : Bool) (s : DSt) : Option ByteArray := if 0 ≤ wrap64 (s.last - 1) ∧ wrap64 (s.last - 1) < 47 then (
  let t := strOfNums ((s.row.set (wrap64 (s.last - 1)).toNat 45).drop (wrap64 (wrap64 (s.last - 1) + if p then 1 else 0)).toNat)
  if s.exp > 0 then (strconv_Itoa_18.f s.exp).bind fun e => if e.size ≤ 100 then some ((t ++ ⟨#[69, 43]⟩) ++ e) else none else if s.exp < 0 then (strconv_Itoa_18.f s.exp).bind fun e => if e.size ≤ 100 then some ((t ++ ⟨#[69]⟩) ++ e) else none else some t) else none
/-- The text of a finite number. -/
def decimal128_String.g (p : Bool) (exp hi lo : Int) : Option ByteArray :=
  if hi = 0 ∧ lo = 0 ∧ exp = 0 then some (if p then ⟨#[48]⟩ else ⟨#[45, 48]⟩)
  else (DSt.outer 5 ⟨exp, hi, lo, 48, 48, wrap64 (48 + exp), 0, List.replicate 48 0⟩).bind (DSt.text p)
/-- The text of a decimal. -/
def decimal128_String.f (a0 a1 : Int) : Option ByteArray :=
  let p := bits BinOp.and IntKind.u64 (a0 / 9223372036854775808) 1 == 0
  if bits BinOp.and IntKind.u64 (a0 / 288230376151711744) 31 = 31 then some ⟨#[78, 97, 78]⟩
  else if bits BinOp.and IntKind.u64 (a0 / 288230376151711744) 31 = 30 then some (if p then ⟨#[73, 110, 102, 105, 110, 105, 116, 121]⟩ else ⟨#[45, 73, 110, 102, 105, 110, 105, 116, 121]⟩)
  else if bits BinOp.and IntKind.u64 (a0 / 2305843009213693952) 3 = 3 then decimal128_String.g p (wrap64 (wrap64 (bits BinOp.and IntKind.u64 (a0 / 140737488355328) 16383) + -6176)) 0 0
  else decimal128_String.g p (wrap64 (wrap64 (bits BinOp.and IntKind.u64 (a0 / 562949953421312) 16383) + -6176)) (bits BinOp.and IntKind.u64 a0 562949953421311) a1
theorem dconv {W : World} {g t : Nat} {l : List Int} {x : Nat} (h : W.heap[g]? = some (.cells (nums .u8 l).toArray t (0, 0))) (hl : l.length = 48) (hx : x < 48) : (convert 40 9 (.slice (some ⟨g, x, none⟩) (48 - x) (48 - x))).run Tryd.prog W = .ok (.string (strOfNums (l.drop x))) W := by
  refine run_convert_bytes_arg W 40 5 Tryd.underlying40 Tryd.underlying5 g x (48 - x) (48 - x) (l.drop x) (by rw [List.length_drop, hl]) (fun i hi => ?_) 9 Tryd.underlying9
  rw [blk_cell h]
  have : x + i < l.length := by omega
  simp [nums, List.getD_eq_getElem?_getD, List.getElem?_eq_getElem this]
theorem dcell {W : World} {g t : Nat} {l : List Int} {i : Int} (h : W.heap[g]? = some (.cells (nums .u8 l).toArray t (0, 0))) (hl : l.length = 48) (h0 : 0 ≤ i) (h1 : i < 48) : W.cell? ⟨g, i.toNat, none⟩ = some (.int .u8 (l.getD i.toNat 0)) := by
  rw [blk_cell h]
  have : i.toNat < l.length := by omega
  simp [nums, List.getD_eq_getElem?_getD, List.getElem?_eq_getElem this]
theorem dset {W : World} {g t : Nat} {l : List Int} (h : W.heap[g]? = some (.cells (nums .u8 l).toArray t (0, 0))) (j : Nat) (v : Int) : (W.setCell ⟨g, j, none⟩ (.int .u8 v)).heap[g]? = some (.cells (nums .u8 (l.set j v)).toArray t (0, 0)) := blk_put h j _ (by simp [nums, List.map_set])
set_option maxHeartbeats 4000000 in
set_option maxRecDepth 100000 in
theorem decimal128_String.calls (a0 a1 : Int) (r : ByteArray) (w : World) (hlaid : Ito.LaidT w) (h : decimal128_String.f a0 a1 = some r) :
    Calls Tryd.prog 15 #[.int .u64 a0, .int .u64 a1] w fun e w' => e = .returned (.string r) ∧ Below w.heap.size w w' := by
  have HB := Aside0.mk (Below.refl w.heap.size w)
  have HL := Aside0.mk hlaid
  have H0 := Aside0.mk h
  clear h hlaid
  go_enter Tryd.func15, Tryd.ntmps15
  go_wp2
  go_step3
  go_upto_if 20 with (fail)
  go_cut [5] (fun v5 wc => ∃ (p : Bool) (q : Int), v5 = .int .i64 q ∧ Aside0 (q = if p then 1 else 0) ∧ Aside0 (p = (bits BinOp.and IntKind.u64 (a0 / 9223372036854775808) 1 == 0)) ∧ Aside0 (Below w.heap.size w wc))
  case first =>
    by_cases c : bits BinOp.and IntKind.u64 (a0 / 9223372036854775808) 1 = 0
    · have cb : (bits BinOp.and IntKind.u64 (a0 / 9223372036854775808) 1 == 0) = true := beq_iff_eq.mpr c
      as_aux_lemma =>
        go_wp2
        go_meet
        case rel => exact ⟨true, 1, rfl, ⟨rfl⟩, ⟨cb.symm⟩, HB⟩
    have cb : (bits BinOp.and IntKind.u64 (a0 / 9223372036854775808) 1 == 0) = false := beq_eq_false_iff_ne.mpr c
    as_aux_lemma =>
      go_wp2
      go_meet
      case rel => exact ⟨false, 0, rfl, ⟨rfl⟩, ⟨cb.symm⟩, HB⟩
  case rest =>
    clear HB
    obtain ⟨p, q, rfl, HQ, HP, HB⟩ := hcut
    have H := H0.out
    clear H0
    unfold decimal128_String.f at H
    rw [← HP.out] at H
    clear HP
    dsimp only at H
    by_cases c1 : bits BinOp.and IntKind.u64 (a0 / 288230376151711744) 31 = 31
    · rw [if_pos c1] at H
      obtain rfl := Option.some.inj H
      have cb : (bits BinOp.and IntKind.u64 (a0 / 288230376151711744) 31 == 31) = true := beq_iff_eq.mpr c1
      as_aux_lemma =>
        go_wp2
        try rw [Exit.noGoto_ret]
        go_ret
        exact ⟨rfl, HB.out⟩
    rw [if_neg c1] at H
    have cb1 : (bits BinOp.and IntKind.u64 (a0 / 288230376151711744) 31 == 31) = false := beq_eq_false_iff_ne.mpr c1
    by_cases c2 : bits BinOp.and IntKind.u64 (a0 / 288230376151711744) 31 = 30
    · rw [if_pos c2] at H
      obtain rfl := Option.some.inj H
      have cb : (bits BinOp.and IntKind.u64 (a0 / 288230376151711744) 31 == 30) = true := beq_iff_eq.mpr c2
      cases p <;> obtain rfl := HQ.out
      · as_aux_lemma =>
          go_wp2
          try rw [Exit.noGoto_ret]
          go_ret
          exact ⟨rfl, HB.out⟩
      as_aux_lemma =>
        go_wp2
        try rw [Exit.noGoto_ret]
        go_ret
        exact ⟨rfl, HB.out⟩
    rw [if_neg c2] at H
    have cb2 : (bits BinOp.and IntKind.u64 (a0 / 288230376151711744) 31 == 30) = false := beq_eq_false_iff_ne.mpr c2
    have H' := Aside0.mk H
    clear H
    go_upto_if 34 with (fail)
    go_cut [6, 7, 8] (fun v6 v7 v8 wc => ∃ (e hi lo : Int), v6 = .int .i64 e ∧ v7 = .int .u64 hi ∧ v8 = .int .u64 lo ∧ Aside0 (decimal128_String.g p (wrap64 (e + -6176)) hi lo = some r) ∧ Aside0 (Below w.heap.size w wc))
    case first =>
      by_cases c : bits BinOp.and IntKind.u64 (a0 / 2305843009213693952) 3 = 3
      · have cb : (bits BinOp.and IntKind.u64 (a0 / 2305843009213693952) 3 == 3) = true := beq_iff_eq.mpr c
        have H := H'.out
        rw [if_pos c] at H
        have H2 := Aside0.mk H
        clear H H'
        as_aux_lemma =>
          go_wp2
          go_meet
          case rel => exact ⟨_, _, _, rfl, rfl, rfl, H2, HB⟩
      have cb : (bits BinOp.and IntKind.u64 (a0 / 2305843009213693952) 3 == 3) = false := beq_eq_false_iff_ne.mpr c
      have H := H'.out
      rw [if_neg c] at H
      have H2 := Aside0.mk H
      clear H H'
      as_aux_lemma =>
        go_wp2
        go_meet
        case rel => exact ⟨_, _, _, rfl, rfl, rfl, H2, HB⟩
    case rest =>
      clear HB H' c1 c2
      obtain ⟨e, hi, lo, rfl, rfl, rfl, HA, HB⟩ := hcut
      obtain ⟨E, hE⟩ : ∃ E, E = wrap64 (e + -6176) := ⟨_, rfl⟩
      rw [← hE] at HA
      have HE := Aside0.mk hE
      clear hE
      go_upto_region 18 with (fail)
      (try simp only [i64_w])
      rw [← HE.out]
      clear HE
      go_cut [56] (fun v56 wc => ∃ b : Bool, v56 = .bool b ∧ Aside0 (b = true ↔ hi = 0 ∧ lo = 0 ∧ E = 0) ∧ Aside0 (Below w.heap.size w wc))
      case first =>
        clear HA
        by_cases c3 : hi = 0
        rotate_left
        · have cb3 : (hi == 0) = false := beq_eq_false_iff_ne.mpr c3
          as_aux_lemma =>
            go_wp2
            go_meet
            case rel => exact ⟨false, by first | rfl | simp [*], ⟨by simp [*]⟩, HB⟩
        have cb3 : (hi == 0) = true := beq_iff_eq.mpr c3
        by_cases c4 : lo = 0
        · have cb4 : (lo == 0) = true := beq_iff_eq.mpr c4
          as_aux_lemma =>
            go_wp2
            go_meet
            case rel => exact ⟨E == 0, by first | rfl | simp [*], ⟨by simp [*]⟩, HB⟩
        have cb4 : (lo == 0) = false := beq_eq_false_iff_ne.mpr c4
        as_aux_lemma =>
          go_wp2
          go_meet
          case rel => exact ⟨false, by first | rfl | simp [*], ⟨by simp [*]⟩, HB⟩
      case rest =>
        clear HB
        obtain ⟨b, rfl, HZ, HB⟩ := hcut
        have H := HA.out
        clear HA
        unfold decimal128_String.g at H
        cases b
        rotate_left
        · rw [if_pos (HZ.out.1 rfl)] at H
          obtain rfl := Option.some.inj H
          clear H HZ
          cases p <;> obtain rfl := HQ.out
          · as_aux_lemma =>
              go_wp2
              (try rw [Exit.noGoto_ret])
              go_ret
              exact ⟨rfl, HB.out⟩
          as_aux_lemma =>
            go_wp2
            (try rw [Exit.noGoto_ret])
            go_ret
            exact ⟨rfl, HB.out⟩
        rw [if_neg (fun h => by have := HZ.out.2 h; cases this)] at H
        have HA := Aside0.mk H
        clear H HZ
        go_upto_block 1 with (fail)
        go_step3
        go_upto_block 1 with (fail)
        (try simp only [i64_w])
        have BK : Aside0 ((wc.alloc (.cells ((nums .u8 (List.replicate 48 0)).toArray) 44)).heap[wc.heap.size]? = some (.cells ((nums .u8 (List.replicate 48 0)).toArray) 44 (0, 0))) := ⟨blk_new _ _⟩
        have hgb : Aside0 (w.heap.size ≤ wc.heap.size) := ⟨below_size HB.out⟩
        have HB2 : Aside0 (Below w.heap.size w (wc.alloc (.cells ((nums .u8 (List.replicate 48 0)).toArray) 44))) := ⟨below_alloc HB.out _⟩
        clear HB
        have hnu : (nums .u8 (List.replicate 48 0)).toArray = #[Value.int .u8 0, .int .u8 0, .int .u8 0, .int .u8 0, .int .u8 0, .int .u8 0, .int .u8 0, .int .u8 0, .int .u8 0, .int .u8 0, .int .u8 0, .int .u8 0, .int .u8 0, .int .u8 0, .int .u8 0, .int .u8 0, .int .u8 0, .int .u8 0, .int .u8 0, .int .u8 0, .int .u8 0, .int .u8 0, .int .u8 0, .int .u8 0, .int .u8 0, .int .u8 0, .int .u8 0, .int .u8 0, .int .u8 0, .int .u8 0, .int .u8 0, .int .u8 0, .int .u8 0, .int .u8 0, .int .u8 0, .int .u8 0, .int .u8 0, .int .u8 0, .int .u8 0, .int .u8 0, .int .u8 0, .int .u8 0, .int .u8 0, .int .u8 0, .int .u8 0, .int .u8 0, .int .u8 0, .int .u8 0] := rfl
        rw [← hnu]
        clear hnu
        generalize hgw : wc.alloc (.cells ((nums .u8 (List.replicate 48 0)).toArray) 44) = W0 at *
        generalize hgg : wc.heap.size = g at *
        clear hgw hgg
        go_cut [6, 10] (fun v6 v10 wc => ∃ s : DSt, v6 = .int .i64 s.exp ∧ v10 = .int .i64 s.last ∧ Aside0 (DSt.text p s = some r) ∧ Aside0 (wc.heap[g]? = some (.cells (nums .u8 s.row).toArray 44 (0, 0))) ∧ Aside0 (s.row.length = 48) ∧ Aside0 (Below w.heap.size w wc))
        case first =>
          clear HQ HL
          go_wp2
          go_loopg [6, 7, 8, 10, 11, 12, 13, 14] 5 (fun k v6 v7 v8 v10 v11 v12 v13 v14 wx => ∃ (s : DSt) (d : Int), v6 = .int .i64 s.exp ∧ v7 = .int .u64 s.hi ∧ v8 = .int .u64 s.lo ∧ v10 = .int .i64 s.last ∧ v11 = .int .i64 s.i ∧ v12 = .int .i64 s.dot ∧ v13 = .int .u32 s.rem ∧ v14 = .int .i64 d ∧ Aside0 (d + k = 5 ∧ 0 ≤ d) ∧ Aside0 ((DSt.outer k s).bind (DSt.text p) = some r) ∧ Aside0 (wx.heap[g]? = some (.cells (nums .u8 s.row).toArray 44 (0, 0))) ∧ Aside0 (s.row.length = 48) ∧ Aside0 (Below w.heap.size w wx))
          case atStart => exact ⟨⟨E, hi, lo, 48, 48, wrap64 (48 + E), 0, List.replicate 48 0⟩, 0, rfl, rfl, rfl, rfl, rfl, rfl, rfl, rfl, ⟨rfl, Int.le_refl _⟩, HA, BK, ⟨rfl⟩, HB2⟩
          case round =>
            clear HA BK HB2
            obtain ⟨s, d, rfl, rfl, rfl, rfl, rfl, rfl, rfl, rfl, HD, HA, BK, HN, HB⟩ := hrel
            cases gk with
            | zero =>
              obtain rfl : d = 5 := by have := HD.out; omega
              as_aux_lemma =>
                go_wp2
                go_meet
                case rel => exact ⟨s, rfl, rfl, ⟨HA.out⟩, BK, HN, HB⟩
            | succ k =>
              have hd5 : d < 5 := by have := HD.out; omega
              have hd0 : 0 ≤ d ∨ True := .inr trivial
              have H := HA.out
              clear HA
              simp only [DSt.outer] at H
              obtain ⟨s9, H, HT⟩ := Option.bind_eq_some_iff.mp H
              obtain ⟨⟨qh, ql, qr⟩, hdm, H⟩ := Option.bind_eq_some_iff.mp H
              have HDM := Aside0.mk hdm
              have H2 : ((DSt.inner 9 { s with hi := qh, lo := ql, rem := qr }).bind fun r => if r.2 = true then some r.1 else DSt.outer k r.1).bind (DSt.text p) = some r := Option.bind_eq_some_iff.mpr ⟨s9, H, HT⟩
              have HA := Aside0.mk H2
              clear H H2 HT hdm hd0
              go_wp2_with (first | (go_at_call 17; (with_reducible refine (decimal128_divmod.calls s.hi s.lo 1000000000 qh ql qr _ HDM.out).mono ?_); rintro e wd ⟨rfl, hb⟩; have n0_ := Aside0.mk (blk_below BK.out (Drawn0.below hb)); have n1_ := Aside0.mk (below_step HB.out (Drawn0.below hb)); clear BK HB hb; have BK := n0_; have HB := n1_; clear n0_ n1_))
              go_loopg [6, 10, 11, 12, 13, 15] 9 (fun m v6 v10 v11 v12 v13 v15 wx => ∃ (s1 : DSt) (d1 : Int), v6 = .int .i64 s1.exp ∧ v10 = .int .i64 s1.last ∧ v11 = .int .i64 s1.i ∧ v12 = .int .i64 s1.dot ∧ v13 = .int .u32 s1.rem ∧ v15 = .int .i64 d1 ∧ Aside0 (s1.hi = qh ∧ s1.lo = ql) ∧ Aside0 (d1 + m = 9 ∧ 0 ≤ d1) ∧ Aside0 (((DSt.inner m s1).bind fun r => if r.2 = true then some r.1 else DSt.outer k r.1).bind (DSt.text p) = some r) ∧ Aside0 (wx.heap[g]? = some (.cells (nums .u8 s1.row).toArray 44 (0, 0))) ∧ Aside0 (s1.row.length = 48) ∧ Aside0 (Below w.heap.size w wx))
              case atStart => exact ⟨{ s with hi := qh, lo := ql, rem := qr }, 0, rfl, rfl, rfl, rfl, rfl, rfl, ⟨rfl, rfl⟩, ⟨rfl, Int.le_refl _⟩, HA, BK, HN, HB⟩
              case round =>
                clear HA BK HN HB HDM
                obtain ⟨s1, d1, rfl, rfl, rfl, rfl, rfl, rfl, HQQ, HD1, HA, BK, HN, HB⟩ := hrel
                cases gk with
                | zero =>
                  obtain rfl : d1 = 9 := by have := HD1.out; omega
                  have hwd : wrap64 (d + 1) = d + 1 := by have := HD.out; unfold wrap64; omega
                  as_aux_lemma =>
                    go_wp2
                    go_roundg k
                    case measure => omega
                    case rel => exact ⟨s1, d + 1, rfl, by rw [HQQ.out.1], by rw [HQQ.out.2], rfl, rfl, rfl, rfl, by first | rfl | rw [hwd] | simp [hwd], ⟨by have := HD.out; omega, by have := HD.out; omega⟩, HA, BK, HN, HB⟩
                | succ m =>
                  have hd9 : d1 < 9 := by have := HD1.out; omega
                  have H := HA.out
                  clear HA
                  obtain ⟨s8, H1, HT⟩ := Option.bind_eq_some_iff.mp H
                  obtain ⟨r1, H2, H3⟩ := Option.bind_eq_some_iff.mp H1
                  simp only [DSt.inner] at H2
                  obtain ⟨⟨s7, b⟩, H4, H5⟩ := Option.bind_eq_some_iff.mp H2
                  unfold DSt.round at H4
                  obtain ⟨s2, H6, H7⟩ := Option.bind_eq_some_iff.mp H4
                  obtain ⟨s3, H8, H9⟩ := Option.map_eq_some_iff.mp H7
                  have HDOT := Aside0.mk H6
                  have HDIG := Aside0.mk H8
                  have HAFT := Aside0.mk H9
                  have HEND : Aside0 ((if b = true then some (s7, b) else DSt.inner m s7) = some r1 ∧ (if r1.2 = true then some r1.1 else DSt.outer k r1.1) = some s8 ∧ DSt.text p s8 = some r) := ⟨H5, H3, HT⟩
                  clear H H1 H2 H3 H4 H5 H6 H7 H8 H9 HT
                  go_upto_region 32 with (fail)
                  go_cut [108] (fun v108 wc => v108 = .bool s1.point ∧ wr = wc)
                  case first =>
                    have hh := HQQ.out.1
                    have hl := HQQ.out.2
                    by_cases h1 : s1.i < 48
                    rotate_left
                    · skip
                      have h1b : decide (s1.i < 48) = false := decide_eq_false h1
                      as_aux_lemma =>
                        go_wp2
                        go_meet
                        case rel => exact ⟨by simp [DSt.point, *], rfl⟩
                    have h1b : decide (s1.i < 48) = true := decide_eq_true h1
                    by_cases h2 : s1.dot = s1.i
                    · skip
                      have h2b : (s1.dot == s1.i) = true := beq_iff_eq.mpr h2
                      as_aux_lemma =>
                        go_wp2
                        go_meet
                        case rel => exact ⟨by simp [DSt.point, *], rfl⟩
                    have h2b : (s1.dot == s1.i) = false := beq_eq_false_iff_ne.mpr h2
                    by_cases h3 : ql = 0
                    rotate_left
                    · skip
                      have h3b : (ql == 0) = false := beq_eq_false_iff_ne.mpr h3
                      as_aux_lemma =>
                        go_wp2
                        go_meet
                        case rel => exact ⟨by simp [DSt.point, *], rfl⟩
                    have h3b : (ql == 0) = true := beq_iff_eq.mpr h3
                    clear h3
                    by_cases h4 : qh = 0
                    rotate_left
                    · skip
                      have h4b : (qh == 0) = false := beq_eq_false_iff_ne.mpr h4
                      as_aux_lemma =>
                        go_wp2
                        go_meet
                        case rel => exact ⟨by simp [DSt.point, *], rfl⟩
                    have h4b : (qh == 0) = true := beq_iff_eq.mpr h4
                    clear h4
                    by_cases h5 : s1.rem > 0
                    rotate_left
                    · skip
                      have h5b : decide (s1.rem > 0) = false := decide_eq_false h5
                      as_aux_lemma =>
                        go_wp2
                        go_meet
                        case rel => exact ⟨by simp [DSt.point, *], rfl⟩
                    have h5b : decide (s1.rem > 0) = true := decide_eq_true h5
                    by_cases h6 : s1.rem < 10
                    rotate_left
                    · skip
                      have h6b : decide (s1.rem < 10) = false := decide_eq_false h6
                      as_aux_lemma =>
                        go_wp2
                        go_meet
                        case rel => exact ⟨by simp [DSt.point, *], rfl⟩
                    have h6b : decide (s1.rem < 10) = true := decide_eq_true h6
                    by_cases h7 : s1.dot < wrap64 (s1.i - 6)
                    · skip
                      have h7b : decide (s1.dot < wrap64 (s1.i - 6)) = true := decide_eq_true h7
                      as_aux_lemma =>
                        go_wp2
                        go_meet
                        case rel => exact ⟨by simp [DSt.point, *], rfl⟩
                    skip
                    have h7b : decide (s1.dot < wrap64 (s1.i - 6)) = false := decide_eq_false h7
                    as_aux_lemma =>
                      go_wp2
                      go_meet
                      case rel => exact ⟨by simp [DSt.point, *], rfl⟩
                  case rest =>
                    obtain ⟨rfl, rfl⟩ := hcut
                    go_upto_if 108 with (fail)
                    go_cut [6, 10, 11, 12] (fun v6 v10 v11 v12 wc => v6 = .int .i64 s2.exp ∧ v10 = .int .i64 s2.last ∧ v11 = .int .i64 s2.i ∧ v12 = .int .i64 s2.dot ∧ Aside0 (s2.rem = s1.rem ∧ s2.hi = s1.hi ∧ s2.lo = s1.lo) ∧ Aside0 (wc.heap[g]? = some (.cells (nums .u8 s2.row).toArray 44 (0, 0))) ∧ Aside0 (s2.row.length = 48) ∧ Aside0 (Below w.heap.size w wc))
                    case first =>
                      have H := HDOT.out
                      clear HDOT
                      unfold DSt.dotted at H
                      by_cases hp : s1.point = true
                      rotate_left
                      · rw [if_neg hp] at H
                        obtain rfl := Option.some.inj H
                        have hpf : s1.point = false := Bool.eq_false_iff.mpr hp
                        rw [hpf]
                        as_aux_lemma =>
                          go_wp2
                          go_meet
                          case rel => exact ⟨rfl, rfl, rfl, rfl, ⟨by simp⟩, BK, HN, HB⟩
                      rw [if_pos hp] at H
                      obtain ⟨s20, hput, he⟩ := Option.map_eq_some_iff.mp H
                      clear H
                      unfold DSt.put at hput
                      by_cases hb : 0 ≤ wrap64 (s1.i - 1) ∧ wrap64 (s1.i - 1) < 48
                      rotate_left
                      · rw [if_neg hb] at hput; cases hput
                      rw [if_pos hb] at hput
                      obtain rfl := Option.some.inj hput
                      obtain rfl := he
                      obtain ⟨hb0, hb1⟩ := hb
                      rw [hp]
                      have hww : ∀ x : Int, 0 ≤ x → x < 48 → wrap64 (x - 1) = x - 1 := by intro x h0 h1; unfold wrap64; omega
                      have hc : wr.cell? ⟨g, (wrap64 (s1.i - 1)).toNat, none⟩ = some (.int .u8 (s1.row.getD (wrap64 (s1.i - 1)).toNat 0)) := dcell BK.out HN.out hb0 hb1
                      have hf := blk_frozen BK.out (wrap64 (s1.i - 1)).toNat
                      as_aux_lemma =>
                        go_wp2
                        go_meet
                        case rel => exact ⟨rfl, by rw [hww _ hb0 hb1], rfl, rfl, ⟨by simp⟩, ⟨dset BK.out _ _⟩, ⟨by simp only [List.length_set]; exact HN.out⟩, ⟨below_set HB.out hgb.out⟩⟩
                    case rest =>
                      clear BK HN HB HDOT
                      obtain ⟨rfl, rfl, rfl, rfl, HS, BK, HN, HB⟩ := hcut
                      have H := HDIG.out
                      clear HDIG
                      rw [← HS.out.1]
                      unfold DSt.digit DSt.put at H
                      by_cases hb : 0 ≤ wrap64 (s2.i - 1) ∧ wrap64 (s2.i - 1) < 48
                      rotate_left
                      · rw [if_neg hb] at H; cases H
                      rw [if_pos hb] at H
                      have he := Option.some.inj H
                      clear H
                      obtain ⟨hb0, hb1⟩ := hb
                      have hc : wc.cell? ⟨g, (wrap64 (s2.i - 1)).toNat, none⟩ = some (.int .u8 (s2.row.getD (wrap64 (s2.i - 1)).toNat 0)) := dcell BK.out HN.out hb0 hb1
                      have hf := blk_frozen BK.out (wrap64 (s2.i - 1)).toNat
                      have HE3 : Aside0 (s3.i = wrap64 (s2.i - 1) ∧ s3.rem = s2.rem.tdiv 10 % 4294967296 ∧ s3.exp = s2.exp ∧ s3.dot = s2.dot ∧ s3.last = s2.last ∧ s3.hi = qh ∧ s3.lo = ql ∧ s3.row = s2.row.set (wrap64 (s2.i - 1)).toNat s2.c) := ⟨by rw [← he]; exact ⟨rfl, rfl, rfl, rfl, rfl, HS.out.2.1.trans HQQ.out.1, HS.out.2.2.trans HQQ.out.2, rfl⟩⟩
                      have HB01 : Aside0 (0 ≤ s3.i ∧ s3.i < 48) := ⟨by rw [← he]; exact ⟨hb0, hb1⟩⟩
                      clear he
                      go_upto_region 42 with (fail)
                      have hcc : (48 + s2.rem.tmod 10 % 256) % 256 = s2.c := by
                        show _ = (48 + s2.rem.tmod 10) % 256
                        generalize s2.rem.tmod 10 = t
                        omega
                      have hcw : (48 + s2.rem.tmod 10) % 256 = s2.c := rfl
                      rw [hcc, hcw]
                      clear hcc hcw hc hf
                      have n0_ : Aside0 ((wc.setCell ⟨g, (wrap64 (s2.i - 1)).toNat, none⟩ (.int .u8 s2.c)).heap[g]? = some (.cells (nums .u8 s3.row).toArray 44 (0, 0))) := ⟨by rw [HE3.out.2.2.2.2.2.2.2]; exact dset BK.out _ _⟩
                      have n1_ : Aside0 (Below w.heap.size w (wc.setCell ⟨g, (wrap64 (s2.i - 1)).toNat, none⟩ (.int .u8 s2.c))) := ⟨below_set HB.out hgb.out⟩
                      have n2_ : Aside0 (s3.row.length = 48) := ⟨by rw [HE3.out.2.2.2.2.2.2.2, List.length_set]; exact HN.out⟩
                      clear BK HB HN
                      generalize wc.setCell ⟨g, (wrap64 (s2.i - 1)).toNat, none⟩ (.int .u8 s2.c) = W3 at *
                      have BK := n0_
                      have HB := n1_
                      have HN := n2_
                      clear n0_ n1_ n2_ hb0 hb1
                      rw [← HE3.out.1, ← HE3.out.2.1, ← HE3.out.2.2.1, ← HE3.out.2.2.2.1, ← HE3.out.2.2.2.2.1]
                      have HQ3 : Aside0 (s3.hi = qh ∧ s3.lo = ql) := ⟨HE3.out.2.2.2.2.2.1, HE3.out.2.2.2.2.2.2.1⟩
                      clear HE3 HS
                      generalize s2.c = c at *
                      go_cut [153] (fun v153 wc => v153 = .bool s3.lone ∧ W3 = wc)
                      case first =>
                        have hh := HQ3.out.1
                        have hl := HQ3.out.2
                        by_cases g3 : ql = 0
                        rotate_left
                        · skip
                          have g3b : (ql == 0) = false := beq_eq_false_iff_ne.mpr g3
                          as_aux_lemma =>
                            go_wp2
                            go_meet
                            case rel => exact ⟨by simp [DSt.lone, *], rfl⟩
                        have g3b : (ql == 0) = true := beq_iff_eq.mpr g3
                        clear g3
                        by_cases g4 : qh = 0
                        rotate_left
                        · skip
                          have g4b : (qh == 0) = false := beq_eq_false_iff_ne.mpr g4
                          as_aux_lemma =>
                            go_wp2
                            go_meet
                            case rel => exact ⟨by simp [DSt.lone, *], rfl⟩
                        have g4b : (qh == 0) = true := beq_iff_eq.mpr g4
                        clear g4
                        by_cases g5 : s3.rem = 0
                        rotate_left
                        · skip
                          have g5b : (s3.rem == 0) = false := beq_eq_false_iff_ne.mpr g5
                          as_aux_lemma =>
                            go_wp2
                            go_meet
                            case rel => exact ⟨by simp [DSt.lone, *], rfl⟩
                        have g5b : (s3.rem == 0) = true := beq_iff_eq.mpr g5
                        clear g5
                        by_cases g6 : s3.i = 47
                        rotate_left
                        · skip
                          have g6b : (s3.i == 47) = false := beq_eq_false_iff_ne.mpr g6
                          as_aux_lemma =>
                            go_wp2
                            go_meet
                            case rel => exact ⟨by simp [DSt.lone, *], rfl⟩
                        have g6b : (s3.i == 47) = true := beq_iff_eq.mpr g6
                        clear g6
                        by_cases g7 : s3.dot < wrap64 (s3.i - 5)
                        · skip
                          have g7b : decide (s3.dot < wrap64 (s3.i - 5)) = true := decide_eq_true g7
                          as_aux_lemma =>
                            go_wp2
                            go_meet
                            case rel => exact ⟨by simp [DSt.lone, *], rfl⟩
                        skip
                        have g7b : decide (s3.dot < wrap64 (s3.i - 5)) = false := decide_eq_false g7
                        as_aux_lemma =>
                          go_wp2
                          go_meet
                          case rel => exact ⟨by simp [DSt.lone, *], rfl⟩
                      case rest =>
                        obtain ⟨rfl, rfl⟩ := hcut
                        have HF := HAFT.out
                        clear HAFT
                        unfold DSt.after at HF
                        by_cases hlo : s3.lone = true
                        · rw [if_pos hlo] at HF
                          obtain ⟨rfl, rfl⟩ := Prod.mk.inj HF
                          obtain ⟨e1, e2, e3⟩ := HEND.out
                          rw [if_pos rfl] at e1
                          obtain rfl := Option.some.inj e1
                          rw [if_pos rfl] at e2
                          obtain rfl := Option.some.inj e2
                          have HT := Aside0.mk e3
                          clear e1 e2 e3 HEND HF
                          rw [hlo]
                          as_aux_lemma =>
                            go_wp2
                            go_meet
                            case rel => exact ⟨{ s3 with last := s3.i }, rfl, rfl, HT, BK, HN, HB⟩
                        rw [if_neg hlo] at HF
                        have hlf : s3.lone = false := Bool.eq_false_iff.mpr hlo
                        clear hlo
                        rw [hlf]
                        clear hlf
                        go_upto_if 156 with (fail)
                        obtain ⟨s4, hs4⟩ : ∃ s4, s4 = (if (c != 48) = true then { s3 with last := s3.i } else s3) := ⟨_, rfl⟩
                        rw [← hs4] at HF
                        obtain ⟨rfl, rfl⟩ := Prod.mk.inj HF
                        clear HF
                        have HS4 : Aside0 (s4.exp = s3.exp ∧ s4.i = s3.i ∧ s4.dot = s3.dot ∧ s4.rem = s3.rem ∧ s4.hi = s3.hi ∧ s4.lo = s3.lo ∧ s4.row = s3.row) := ⟨by rw [hs4]; split <;> exact ⟨rfl, rfl, rfl, rfl, rfl, rfl, rfl⟩⟩
                        go_cut [10] (fun v10 wc => v10 = .int .i64 s4.last ∧ W3 = wc)
                        case first =>
                          clear HEND
                          by_cases h48 : c = 48
                          · have h48b : (c != 48) = false := bne_eq_false_iff_eq.mpr h48
                            rw [h48b, if_neg (by decide)] at hs4
                            clear h48
                            have hs5 := Aside0.mk hs4
                            clear hs4
                            as_aux_lemma =>
                              go_wp2
                              go_meet
                              case rel => exact ⟨by rw [hs5.out], rfl⟩
                          have h48b : (c != 48) = true := bne_iff_ne.mpr h48
                          rw [h48b, if_pos rfl] at hs4
                          have hs5 := Aside0.mk hs4
                          clear hs4
                          as_aux_lemma =>
                            go_wp2
                            go_meet
                            case rel => exact ⟨by rw [hs5.out], rfl⟩
                        case rest =>
                          clear hs4
                          obtain ⟨rfl, rfl⟩ := hcut
                          go_upto_region 46 with (fail)
                          go_cut [172] (fun v172 wc => v172 = .bool s3.full ∧ W3 = wc)
                          case first =>
                            have hh := HQ3.out.1
                            have hl := HQ3.out.2
                            by_cases g1 : s3.dot > s3.i
                            rotate_left
                            · skip
                              have g1b : decide (s3.dot > s3.i) = false := decide_eq_false g1
                              as_aux_lemma =>
                                go_wp2
                                go_meet
                                case rel => exact ⟨by simp [DSt.full, *], rfl⟩
                            have g1b : decide (s3.dot > s3.i) = true := decide_eq_true g1
                            by_cases g3 : ql = 0
                            rotate_left
                            · skip
                              have g3b : (ql == 0) = false := beq_eq_false_iff_ne.mpr g3
                              as_aux_lemma =>
                                go_wp2
                                go_meet
                                case rel => exact ⟨by simp [DSt.full, *], rfl⟩
                            have g3b : (ql == 0) = true := beq_iff_eq.mpr g3
                            clear g3
                            by_cases g4 : qh = 0
                            rotate_left
                            · skip
                              have g4b : (qh == 0) = false := beq_eq_false_iff_ne.mpr g4
                              as_aux_lemma =>
                                go_wp2
                                go_meet
                                case rel => exact ⟨by simp [DSt.full, *], rfl⟩
                            have g4b : (qh == 0) = true := beq_iff_eq.mpr g4
                            clear g4
                            by_cases g5 : s3.rem = 0
                            · skip
                              have g5b : (s3.rem == 0) = true := beq_iff_eq.mpr g5
                              clear g5
                              as_aux_lemma =>
                                go_wp2
                                go_meet
                                case rel => exact ⟨by simp [DSt.full, *], rfl⟩
                            skip
                            have g5b : (s3.rem == 0) = false := beq_eq_false_iff_ne.mpr g5
                            as_aux_lemma =>
                              go_wp2
                              go_meet
                              case rel => exact ⟨by simp [DSt.full, *], rfl⟩
                          case rest =>
                            obtain ⟨rfl, rfl⟩ := hcut
                            obtain ⟨E1, E2, E3, E4, E5, E6, E7⟩ := HS4.out
                            have hwd : wrap64 (d1 + 1) = d1 + 1 := by have h1 := HD1.out; unfold wrap64; omega
                            by_cases hfu : s3.full = true
                            · rw [hfu] at HEND ⊢
                              obtain ⟨e1, e2, e3⟩ := HEND.out
                              rw [if_pos rfl] at e1
                              obtain rfl := Option.some.inj e1
                              rw [if_pos rfl] at e2
                              obtain rfl := Option.some.inj e2
                              have HT := Aside0.mk e3
                              have HS5 := Aside0.mk (And.intro E1 E7)
                              clear e1 e2 e3 HEND E1 E2 E3 E4 E5 E6 E7
                              as_aux_lemma =>
                                go_wp2
                                go_meet
                                case rel => exact ⟨s4, by rw [HS5.out.1], rfl, HT, ⟨by rw [HS5.out.2]; exact BK.out⟩, ⟨by rw [HS5.out.2]; exact HN.out⟩, HB⟩
                            have hff : s3.full = false := Bool.eq_false_iff.mpr hfu
                            rw [hff] at HEND ⊢
                            obtain ⟨e1, e2, e3⟩ := HEND.out
                            rw [if_neg (by decide)] at e1
                            have HA : Aside0 (((DSt.inner m s4).bind fun r => if r.2 = true then some r.1 else DSt.outer k r.1).bind (DSt.text p) = some r) := ⟨Option.bind_eq_some_iff.mpr ⟨_, Option.bind_eq_some_iff.mpr ⟨_, e1, e2⟩, e3⟩⟩
                            have HS5 := HS4
                            clear e1 e2 e3 HEND E1 E2 E3 E4 E5 E6 E7 hff hfu
                            have HW := Aside0.mk hwd
                            clear hwd
                            as_aux_lemma =>
                              go_wp2
                              go_roundg m
                              case measure => omega
                              case rel => exact ⟨s4, wrap64 (d1 + 1), by rw [HS5.out.1], rfl, by rw [HS5.out.2.1], by rw [HS5.out.2.2.1], by rw [HS5.out.2.2.2.1], rfl, ⟨HS5.out.2.2.2.2.1.trans HQ3.out.1, HS5.out.2.2.2.2.2.1.trans HQ3.out.2⟩, ⟨by rw [HW.out]; have := HD1.out; omega, by rw [HW.out]; have := HD1.out; omega⟩, HA, ⟨by rw [HS5.out.2.2.2.2.2.2]; exact BK.out⟩, ⟨by rw [HS5.out.2.2.2.2.2.2]; exact HN.out⟩, HB⟩
        case rest =>
          clear HA BK HB2
          obtain ⟨s, rfl, rfl, HT, BK, HN, HB⟩ := hcut
          have H := HT.out
          clear HT
          unfold DSt.text at H
          by_cases hb : 0 ≤ wrap64 (s.last - 1) ∧ wrap64 (s.last - 1) < 47
          rotate_left
          · rw [if_neg hb] at H; cases H
          rw [if_pos hb] at H
          obtain ⟨y, hy⟩ : ∃ y, y = wrap64 (s.last - 1) := ⟨_, rfl⟩
          rw [← hy] at H hb
          dsimp only at H
          obtain ⟨hb0, hb1⟩ := hb
          have hw : wrap64 (y + if p = true then 1 else 0) = y + q := by rw [HQ.out]; unfold wrap64; split <;> omega
          have hwq : wrap64 (y + q) = y + q := by rw [HQ.out]; unfold wrap64; split <;> omega
          have hq0 : 0 ≤ q := by rw [HQ.out]; split <;> omega
          have hq1 : y + q < 48 := by rw [HQ.out]; split <;> omega
          rw [hw] at H
          clear hw
          have hc : wc.cell? ⟨g, y.toNat, none⟩ = some (.int .u8 (s.row.getD y.toNat 0)) := dcell BK.out HN.out hb0 (by omega)
          have hf := blk_frozen BK.out y.toNat
          have H' := Aside0.mk H
          clear H
          have HY := Aside0.mk hy
          rw [hy] at hc hf
          clear hy
          have HYY : Aside0 (0 ≤ y ∧ y < 47 ∧ 0 ≤ q ∧ y + q < 48 ∧ wrap64 (y + q) = y + q) := ⟨hb0, hb1, hq0, hq1, hwq⟩
          rw [HY.out] at hb0 hb1
          clear hq0 hq1 hwq
          go_upto_region 48 with (fail)
          rw [← HY.out]
          clear hc hf hb0 hb1
          have n0_ : Aside0 ((wc.setCell ⟨g, y.toNat, none⟩ (.int .u8 45)).heap[g]? = some (.cells (nums .u8 (s.row.set y.toNat 45)).toArray 44 (0, 0))) := ⟨dset BK.out _ _⟩
          have n1_ : Aside0 (Below w.heap.size w (wc.setCell ⟨g, y.toNat, none⟩ (.int .u8 45))) := ⟨below_set HB.out hgb.out⟩
          have n2_ : Aside0 ((s.row.set y.toNat 45).length = 48) := ⟨by rw [List.length_set]; exact HN.out⟩
          clear BK HB HN
          generalize wc.setCell ⟨g, y.toNat, none⟩ (.int .u8 45) = W3 at *
          generalize s.row.set y.toNat 45 = R at *
          have BK := n0_
          have HB := n1_
          have HN := n2_
          clear n0_ n1_ n2_
          go_upto_if 179 with (fail)
          (try simp only [i64_w])
          (try rw [← HY.out])
          clear HY
          have hww : IntKind.i64.wrap (y + q) = y + q := by rw [i64_w]; exact HYY.out.2.2.2.2
          have hy0 : 0 ≤ y + q := by have := HYY.out.1; have := HYY.out.2.2.1; omega
          have hy1 : y + q ≤ 48 := Int.le_of_lt HYY.out.2.2.2.1
          have hne : ¬ (48 = (y + q).toNat) := by have := HYY.out.2.2.2.1; omega
          obtain ⟨T, hTe⟩ : ∃ T, strOfNums (R.drop (y + q).toNat) = T := ⟨_, rfl⟩
          have HTT : Aside0 (strOfNums (R.drop (y + q).toNat) = T ∧ T.size ≤ 48) := ⟨hTe, by rw [← hTe]; show (List.toArray _).size ≤ 48; simp only [List.size_toArray, List.length_map, List.length_drop]; have := HN.out; omega⟩
          rw [hTe] at H'
          have hcv0 := dconv (W := W3.drew) (x := (y + q).toNat) BK.out HN.out (by have := HYY.out.2.2.2.1; omega)
          rw [hTe] at hcv0
          clear hTe
          by_cases he : s.exp > 0
          · have heb : decide (s.exp > 0) = true := decide_eq_true he
            rw [if_pos he] at H'
            obtain ⟨t, hi1, hr0⟩ := Option.bind_eq_some_iff.mp H'.out
            by_cases ht : t.size ≤ 100
            rotate_left
            · rw [if_neg ht] at hr0; cases hr0
            rw [if_pos ht] at hr0
            have hr := Option.some.inj hr0
            have HI := Aside0.mk hi1
            have HR := Aside0.mk hr
            clear hi1 H' hr hr0
            have hs0 : T.size ≤ 48 := HTT.out.2
            have c1 : (9223372036854775807 < T.size + 2) = False := eq_false (by omega)
            have c2 : (9223372036854775807 < T.size + 2 + t.size) = False := eq_false (by omega)
            have c3 : (9223372036854775807 < T.size + (⟨#[69, 43]⟩ : ByteArray).size) = False := eq_false (by have : (⟨#[69, 43]⟩ : ByteArray).size = 2 := rfl; omega)
            have c4 : (9223372036854775807 < T.size + (⟨#[69, 43]⟩ : ByteArray).size + t.size) = False := eq_false (by have : (⟨#[69, 43]⟩ : ByteArray).size = 2 := rfl; omega)
            have c5 : (9223372036854775807 < (T ++ (⟨#[69, 43]⟩ : ByteArray)).size + t.size) = False := eq_false (by have : (⟨#[69, 43]⟩ : ByteArray).size = 2 := rfl; rw [ByteArray.size_append]; omega)
            clear ht hs0
            focus
              go_wp2
              go_region_with (go_at_call 18; (with_reducible refine (strconv_Itoa_18.calls s.exp t _ (HL.out.below HL.out.lt (by first | exact HB.out | exact below_drew1 HB.out)) HI.out).mono ?_); rintro e w5 ⟨rfl, hb⟩; have hcv5 := dconv (x := (y + q).toNat) (blk_below (g := g) (o := .cells (nums .u8 R).toArray 44 (0, 0)) (blk_drew BK.out) hb) HN.out (by have := HYY.out.2.2.2.1; omega); rw [HTT.out.1] at hcv5; have HB5 := Aside0.mk (below_step (below_drew1 HB.out) hb); clear hb)
              all_goals
                go_wp2
                (try rw [Exit.noGoto_ret])
                go_ret
                exact ⟨by rw [← HR.out]; rfl, HB5.out⟩
          have heb : decide (s.exp > 0) = false := decide_eq_false he
          rw [if_neg he] at H'
          by_cases he2 : s.exp < 0
          · have heb2 : decide (s.exp < 0) = true := decide_eq_true he2
            rw [if_pos he2] at H'
            obtain ⟨t, hi1, hr0⟩ := Option.bind_eq_some_iff.mp H'.out
            by_cases ht : t.size ≤ 100
            rotate_left
            · rw [if_neg ht] at hr0; cases hr0
            rw [if_pos ht] at hr0
            have hr := Option.some.inj hr0
            have HI := Aside0.mk hi1
            have HR := Aside0.mk hr
            clear hi1 H' hr hr0
            have hs0 : T.size ≤ 48 := HTT.out.2
            have c1 : (9223372036854775807 < T.size + 1) = False := eq_false (by omega)
            have c2 : (9223372036854775807 < T.size + 1 + t.size) = False := eq_false (by omega)
            have c3 : (9223372036854775807 < T.size + (⟨#[69]⟩ : ByteArray).size) = False := eq_false (by have : (⟨#[69]⟩ : ByteArray).size = 1 := rfl; omega)
            have c4 : (9223372036854775807 < T.size + (⟨#[69]⟩ : ByteArray).size + t.size) = False := eq_false (by have : (⟨#[69]⟩ : ByteArray).size = 1 := rfl; omega)
            have c5 : (9223372036854775807 < (T ++ (⟨#[69]⟩ : ByteArray)).size + t.size) = False := eq_false (by have : (⟨#[69]⟩ : ByteArray).size = 1 := rfl; rw [ByteArray.size_append]; omega)
            clear ht hs0
            focus
              go_wp2
              go_region_with (go_at_call 18; (with_reducible refine (strconv_Itoa_18.calls s.exp t _ (HL.out.below HL.out.lt (by first | exact HB.out | exact below_drew1 HB.out)) HI.out).mono ?_); rintro e w5 ⟨rfl, hb⟩; have hcv5 := dconv (x := (y + q).toNat) (blk_below (g := g) (o := .cells (nums .u8 R).toArray 44 (0, 0)) (blk_drew BK.out) hb) HN.out (by have := HYY.out.2.2.2.1; omega); rw [HTT.out.1] at hcv5; have HB5 := Aside0.mk (below_step (below_drew1 HB.out) hb); clear hb)
              all_goals
                go_wp2
                (try rw [Exit.noGoto_ret])
                go_ret
                exact ⟨by rw [← HR.out]; rfl, HB5.out⟩
          have heb2 : decide (s.exp < 0) = false := decide_eq_false he2
          rw [if_neg he2] at H'
          have HR := Aside0.mk (Option.some.inj H'.out)
          clear H'
          focus
            have hcvW := dconv (W := W3) (x := (y + q).toNat) BK.out HN.out (by have := HYY.out.2.2.2.1; omega)
            rw [HTT.out.1] at hcvW
            go_wp2
            (try rw [Exit.noGoto_ret])
            go_ret
            exact ⟨by first | rfl | (rw [← HR.out]; rfl) | rw [HR.out], HB.out⟩

/-! ### bson_Decimal128_String: function 11 -/
def bson_Decimal128_String.f (a0_0 : Int) (a0_1 : Int) : Option (ByteArray) := (decimal128_String.f a0_0 a0_1).bind fun t146 => (some t146)
set_option maxHeartbeats 8000000 in
set_option maxRecDepth 100000 in
theorem bson_Decimal128_String.calls (a0_0 : Int) (a0_1 : Int) (r : ByteArray) (w : World) (hlaid : Ito.LaidT w) (h : bson_Decimal128_String.f a0_0 a0_1 = some r) :
    Calls Tryd.prog 11 #[.agg #[.int .u64 a0_0, .int .u64 a0_1]] w fun e w' => e = .returned (.string r) ∧ Below w.heap.size w w' := by
  have hu34 := Tryd.underlying34
  have HB := Aside0.mk (Below.refl w.heap.size w)
  have HLAID := Aside0.mk hlaid
  clear hlaid
  have H : ((decimal128_String.f a0_0 a0_1).bind fun t146 => (some t146)) = some r := h
  clear h
  replace H := Option.bind_eq_some_iff.mp H
  obtain ⟨t146, A20, H⟩ := H
  replace H : (some t146) = some r := H
  have A2 := Aside0.mk A20
  clear A20
  as_aux_lemma =>
    obtain rfl := Option.some.inj H
    go_enter Tryd.func11, Tryd.ntmps11
    go_wp2_with (first | ((with_reducible refine gate_dst (N := 1) rfl ?_); refine box_event ?hg (N := 1) ?hd (cs := #[.int .u64 a0_0, .int .u64 a0_1]) (t := 34) ?hr ?_; (case hd => rfl); (case hg => rfl); (case hr => first | (go_simp; done) | (go_simp; rfl)); intro gb145 hg w3 hbox hb; have n0_ := Aside0.mk (below_step HW.zb hb); have n1_ := Aside0.mk (hbox); have n3_ := Aside0.mk ((by rw [hg]; exact (below_size HW.zb) : w.heap.size ≤ gb145)); clear HB; have HB := n0_; have BK145 := n1_; have GE145 := n3_; clear n0_ n1_ n3_; clear hb hbox hg; have hcz4_0 := HW.zc BK145.out 0 (.int .u64 a0_0); have hcz4_1 := HW.zc BK145.out 1 (.int .u64 a0_1)) | ((with_reducible refine gate_callee (f := 15) rfl ?_); refine HW.gz (some 7) rfl rfl Tryd.func15 (by kernel_rfl) rfl #[.int .u64 a0_0, .int .u64 a0_1] rfl ?_; (with_reducible refine (decimal128_String.calls a0_0 a0_1 t146 _ ?aLD A2.out).mono ?_); (case aLD => exact Ito.LaidT.below HLAID.out (Ito.LaidT.lt HLAID.out) (by repeat (first | (with_reducible first | exact HB.out | apply below_alloc | apply pw_below_drewN | apply below_drew1 | refine below_set ?_ (by first | exact GE145.out)) | exact HB.out))); rintro e w5 ⟨rfl, hb⟩; refine ⟨_, rfl, ?_⟩; have n1_ := Aside0.mk (below_step HW.zb hb); clear HB; have HB := n1_; clear n1_; (try clear hb); (try clear hb2); (try clear hk); (try clear hi)))
    go_ret
    exact ⟨by first | rfl | (simp [errW_none, errW_some] <;> rfl) | (simp [*, errW_none, errW_some] <;> rfl), HW.zb⟩

/-! ### impl_DecText: function 5 -/
def impl_DecText.f (a0 : Int) (a1 : Int) : Option (ByteArray) := (bson_NewDecimal128.f a0 a1).bind fun bt147 => ((bson_Decimal128_String.f bt147.1 bt147.2).bind fun t149 => (some t149))
set_option maxHeartbeats 8000000 in
set_option maxRecDepth 100000 in
theorem impl_DecText.calls (a0 : Int) (a1 : Int) (r : ByteArray) (w : World) (hlaid : Ito.LaidT w) (h : impl_DecText.f a0 a1 = some r) :
    Calls Tryd.prog 5 #[.int .u64 a0, .int .u64 a1] w fun e w' => e = .returned (.string r) ∧ Below w.heap.size w w' := by
  have HB := Aside0.mk (Below.refl w.heap.size w)
  have HLAID := Aside0.mk hlaid
  clear hlaid
  have H : ((bson_NewDecimal128.f a0 a1).bind fun bt147 => ((bson_Decimal128_String.f bt147.1 bt147.2).bind fun t149 => (some t149))) = some r := h
  clear h
  replace H := Option.bind_eq_some_iff.mp H
  obtain ⟨⟨t147, t148⟩, A30, H⟩ := H
  replace H : ((bson_Decimal128_String.f t147 t148).bind fun t149 => (some t149)) = some r := H
  have A3 := Aside0.mk A30
  clear A30
  replace H := Option.bind_eq_some_iff.mp H
  obtain ⟨t149, A40, H⟩ := H
  replace H : (some t149) = some r := H
  have A4 := Aside0.mk A40
  clear A40
  as_aux_lemma =>
    obtain rfl := Option.some.inj H
    go_enter Tryd.func5, Tryd.ntmps5
    go_wp2_with (first | ((with_reducible refine gate_callee (f := 10) rfl ?_); refine HW.gz (some 7) rfl rfl Tryd.func10 (by kernel_rfl) rfl #[.int .u64 a0, .int .u64 a1] rfl ?_; (with_reducible refine (bson_NewDecimal128.calls a0 a1 t147 t148 _ A3.out).mono ?_); rintro e w5 ⟨rfl, hb⟩; refine ⟨_, rfl, ?_⟩; have n0_ := Aside0.mk (below_step HW.zb hb); clear HB; have HB := n0_; clear n0_; (try clear hb); (try clear hb2); (try clear hk); (try clear hi)) | ((with_reducible refine gate_callee (f := 11) rfl ?_); refine HW.gz (some 8) rfl rfl Tryd.func11 (by kernel_rfl) rfl #[.agg #[.int .u64 t147, .int .u64 t148]] rfl ?_; (with_reducible refine (bson_Decimal128_String.calls t147 t148 t149 _ ?aLD A4.out).mono ?_); (case aLD => exact Ito.LaidT.below HLAID.out (Ito.LaidT.lt HLAID.out) (by repeat (first | (with_reducible first | exact HB.out | apply below_alloc | apply pw_below_drewN | apply below_drew1 | refine below_set ?_ (by first | exact GE145.out)) | exact HB.out))); rintro e w6 ⟨rfl, hb⟩; refine ⟨_, rfl, ?_⟩; have n0_ := Aside0.mk (below_step HW.zb hb); clear HB; have HB := n0_; clear n0_; (try clear hb); (try clear hb2); (try clear hk); (try clear hi)))
    go_ret
    exact ⟨by first | rfl | (simp [errW_none, errW_some] <;> rfl) | (simp [*, errW_none, errW_some] <;> rfl), HW.zb⟩

end Go.Proofs.YtpbfigeaoefcmaaDoor.PDt
