import Derived.Test.YtbfhpjkahobgnaaGreatDoorPLox0
import Derived.Test.YtbfhpjkahobgnaaGreatDoorPLox7
import Derived.Test.YtbfhpjkahobgnaaGreatDoorPLox8
namespace Go.Proofs.YtbfhpjkahobgnaaGreatDoor.PLo
open Go.Proofs.YtbfhpjkahobgnaaGreatDoor.HW (tt ff)
open Go.RowKit Go.Proofs.YtbfhpjkahobgnaaGreatDoorW.PrintWords Go.Proofs.YtbfhpjkahobgnaaGreatDoorW.PrintLast Go.Proofs.YtbfhpjkahobgnaaGreatDoorW.PrintMore
attribute [local go_sem] max2_int min2_int max_two min_two max_three min_three max_four min_four
set_option linter.unusedVariables false
set_option maxHeartbeats 4000000
set_option maxRecDepth 100000
set_option linter.unusedSimpArgs false
def bareFull (k : Int) (t m : ByteArray) (n b h : Int) (B : List Int) (K : List S73) : Bool := (bareText k || t.toList.isEmpty) && ((bareMore k || m.toList.isEmpty) && ((bareN k || n == 0) && ((bareBits k || b == 0) && ((bareHigh k || h == 0) && ((bareBy k || B.length == 0) && (bareKids k || K.length == 0))))))
def nameOk (arr : Bool) (s : ByteArray) (i : Int) : Option Bool := (spec_DocPlain.f (s.size + 1) s).bind fun p => if p = false then some false else if arr = true then (spec_DocDigits.f 64 i).bind fun dg => some (s.toList == dg.toList) else some true
def docRL (rec : SP46 S73 → Option Bool) (arr : Bool) : List S73 → Int → Option Bool
  | [], _ => some true
  | e :: r, i => (nameOk arr e.f0 i).bind fun o => if o = false then some false else (rec e.f1).bind fun q => if q = false then some false else docRL rec arr r (i + 1)
def docR : Nat → Int → ByteArray → ByteArray → Int → Int → Int → List Int → List S73 → Option Bool
  | 0, _, _, _, _, _, _, _, _ => some false
  | d + 1, k, t, m, n, b, h, B, K => (spec_DocKnown.f k).bind fun kn => if kn = false then some false else if bareFull k t m n b h B K = false then some false else if k = 5 then some (decide (0 ≤ n) && decide (n ≤ 255)) else if k = 7 then some (decide (B.length = 12)) else if k = 12 then some (decide (B.length = 12)) else if k = 8 then some (n == 0 || n == 1) else if k = 16 then some (decide (-2147483648 ≤ n) && decide (n < 2147483648)) else if k = 11 then (spec_DocPlain.f (t.size + 1) t).bind fun p => (if p = false then some false else spec_DocPlain.f (m.size + 1) m) else docRL (fun v => docR d v.f0 v.f1 v.f2 v.f3 v.f4 v.f5 v.f6 v.f7) (k == 4) K 0
theorem empty_list : (⟨#[]⟩ : ByteArray).toList = [] := by decide +kernel
theorem bare_gen (k n b h : Int) (t m : ByteArray) (AB AK : Option Addr) (B : List Int) (cB : Nat) (K : List S73) (cK : Nat) : ∃ (xt xm : ByteArray) (xn xb xh : Int) (xA : Option Addr) (xl xc : Nat) (yA : Option Addr) (yl yc : Nat), (∀ W, Calls Tryz.prog 161 #[.agg #[.int .i64 k, .string t, .string m, .int .i64 n, .int .u64 b, .int .u64 h, .slice AB B.length cB, .slice AK K.length cK]] W fun e w' => e = .returned (.agg #[.int .i64 k, .string xt, .string xm, .int .i64 xn, .int .u64 xb, .int .u64 xh, .slice xA xl xc, .slice yA yl yc]) ∧ Below W.heap.size W w') ∧ bareFull k t m n b h B K = (xt.toList.isEmpty && (xm.toList.isEmpty && ((xn == 0) && ((xb == 0) && ((xh == 0) && ((xl == 0) && (yl == 0))))))) := by
  have h0 := fun W => docBare_calls k n b h t m AB AK B.length cB K.length cK W
  obtain ⟨xA, xl, xc, hx, hxl⟩ : ∃ xA xl xc, (if bareBy k = true then .slice none 0 0 else Value.slice AB B.length cB) = Value.slice xA xl xc ∧ (bareBy k || B.length == 0) = (xl == 0) := by
    cases bareBy k
    · exact ⟨_, _, _, rfl, rfl⟩
    exact ⟨_, _, _, rfl, rfl⟩
  obtain ⟨yA, yl, yc, hy, hyl⟩ : ∃ xA xl xc, (if bareKids k = true then .slice none 0 0 else Value.slice AK K.length cK) = Value.slice xA xl xc ∧ (bareKids k || K.length == 0) = (xl == 0) := by
    cases bareKids k
    · exact ⟨_, _, _, rfl, rfl⟩
    exact ⟨_, _, _, rfl, rfl⟩
  unfold bareV at h0
  rw [hx, hy] at h0
  refine ⟨_, _, _, _, _, xA, xl, xc, yA, yl, yc, h0, ?_⟩
  unfold bareFull
  rw [hxl, hyl]
  congr 1
  · cases bareText k <;> simp [empty_list]
  congr 1
  · cases bareMore k <;> simp [empty_list]
  congr 1
  · cases bareN k <;> simp
  congr 1
  · cases bareBits k <;> simp
  congr 1
  cases bareHigh k <;> simp
theorem dr_unknown (k n b h : Int) (t m : ByteArray) (AB AK : Option Addr) (B : List Int) (cB : Nat) (K : List S73) (cK : Nat) (w : World) (dd : Int) (hk : spec_DocKnown.f k = some false) :
    Calls Tryz.prog 123 #[.agg #[.int .i64 k, .string t, .string m, .int .i64 n, .int .u64 b, .int .u64 h, .slice AB B.length cB, .slice AK K.length cK], .int .i64 dd] w fun e w' => e = .returned (.bool false) ∧ Below w.heap.size w w' := by
  have HK := Aside0.mk hk; have B0 : ∀ o, Below w.heap.size w (w.alloc o) := fun o => (Below.refl _ w).alloc (Nat.le_refl _) o; clear hk
  go_enter Tryz.func123, Tryz.ntmps123
  go_wp2_with (go_at_call 160; refine (spec_DocKnown.calls _ false _ HK.out).mono ?_; rintro e w1 ⟨rfl, hD⟩; have hz := blk_below (blk_new w _) hD.below; have HZ := Aside0.mk hz; have HB := Aside0.mk (below_step (B0 _) hD.below); clear hz hD; obtain ⟨z0, z1, z2, z3, z4, z5, z6, z7, y0, y1, y2, y3, y4, y5, y6, y7⟩ := HW.c8 HZ.out)
  go_ret
  exact ⟨rfl, HB.out⟩
theorem dr_zero (k n b h : Int) (t m : ByteArray) (AB AK : Option Addr) (B : List Int) (cB : Nat) (K : List S73) (cK : Nat) (w : World) (hk : spec_DocKnown.f k = some true) :
    Calls Tryz.prog 123 #[.agg #[.int .i64 k, .string t, .string m, .int .i64 n, .int .u64 b, .int .u64 h, .slice AB B.length cB, .slice AK K.length cK], .int .i64 0] w fun e w' => e = .returned (.bool false) ∧ Below w.heap.size w w' := by
  have HK := Aside0.mk hk; have B0 : ∀ o, Below w.heap.size w (w.alloc o) := fun o => (Below.refl _ w).alloc (Nat.le_refl _) o; clear hk
  go_enter Tryz.func123, Tryz.ntmps123
  go_wp2_with (go_at_call 160; refine (spec_DocKnown.calls _ true _ HK.out).mono ?_; rintro e w1 ⟨rfl, hD⟩; have hz := blk_below (blk_new w _) hD.below; have HZ := Aside0.mk hz; have HB := Aside0.mk (below_step (B0 _) hD.below); clear hz hD; obtain ⟨z0, z1, z2, z3, z4, z5, z6, z7, y0, y1, y2, y3, y4, y5, y6, y7⟩ := HW.c8 HZ.out)
  go_ret
  exact ⟨rfl, HB.out⟩
theorem dr_bare (k n b h : Int) (t m : ByteArray) (AB AK : Option Addr) (B : List Int) (cB : Nat) (K : List S73) (cK : Nat) (w : World) (dd : Int) (hd : (dd == 0) = false) (hk : spec_DocKnown.f k = some true) (hbf : bareFull k t m n b h B K = false) :
    Calls Tryz.prog 123 #[.agg #[.int .i64 k, .string t, .string m, .int .i64 n, .int .u64 b, .int .u64 h, .slice AB B.length cB, .slice AK K.length cK], .int .i64 dd] w fun e w' => e = .returned (.bool false) ∧ Below w.heap.size w w' := by
  obtain ⟨xt, xm, xn, xb, xh, xA, xl, xc, yA, yl, yc, hbare, hfull⟩ := bare_gen k n b h t m AB AK B cB K cK; have HK := Aside0.mk hk; have HBARE := Aside0.mk hbare; have B0 : ∀ o, Below w.heap.size w (w.alloc o) := fun o => (Below.refl _ w).alloc (Nat.le_refl _) o; clear hk hbare; rw [hbf] at hfull; clear hbf
  by_cases c0 : xt.toList = []
  case neg =>
    clear hfull
    go_enter Tryz.func123, Tryz.ntmps123
    go_wp2_with (first | (go_at_call 160; refine (spec_DocKnown.calls _ true _ HK.out).mono ?_; rintro e w1 ⟨rfl, hD⟩; have hz := blk_below (blk_new w _) hD.below; have HZ := Aside0.mk hz; have HB := Aside0.mk (below_step (B0 _) hD.below); clear hz hD; obtain ⟨z0, z1, z2, z3, z4, z5, z6, z7, y0, y1, y2, y3, y4, y5, y6, y7⟩ := HW.c8 HZ.out) | (go_at_call 161; refine (HBARE.out _).mono ?_; rintro e w2 ⟨rfl, hD⟩; have hz := blk_below HZ.out hD; clear z0 z1 z2 z3 z4 z5 z6 z7 y0 y1 y2 y3 y4 y5 y6 y7; clear HZ; have HZ := Aside0.mk hz; have HB2 := Aside0.mk (below_step HB.out hD); clear hz hD HB; have HB := HB2; clear HB2; obtain ⟨z0, z1, z2, z3, z4, z5, z6, z7, y0, y1, y2, y3, y4, y5, y6, y7⟩ := HW.c8 HZ.out))
    go_ret
    exact ⟨rfl, below_alloc HB.out _⟩
  by_cases c1 : xm.toList = []
  case neg =>
    clear hfull
    go_enter Tryz.func123, Tryz.ntmps123
    go_wp2_with (first | (go_at_call 160; refine (spec_DocKnown.calls _ true _ HK.out).mono ?_; rintro e w1 ⟨rfl, hD⟩; have hz := blk_below (blk_new w _) hD.below; have HZ := Aside0.mk hz; have HB := Aside0.mk (below_step (B0 _) hD.below); clear hz hD; obtain ⟨z0, z1, z2, z3, z4, z5, z6, z7, y0, y1, y2, y3, y4, y5, y6, y7⟩ := HW.c8 HZ.out) | (go_at_call 161; refine (HBARE.out _).mono ?_; rintro e w2 ⟨rfl, hD⟩; have hz := blk_below HZ.out hD; clear z0 z1 z2 z3 z4 z5 z6 z7 y0 y1 y2 y3 y4 y5 y6 y7; clear HZ; have HZ := Aside0.mk hz; have HB2 := Aside0.mk (below_step HB.out hD); clear hz hD HB; have HB := HB2; clear HB2; obtain ⟨z0, z1, z2, z3, z4, z5, z6, z7, y0, y1, y2, y3, y4, y5, y6, y7⟩ := HW.c8 HZ.out))
    go_ret
    exact ⟨rfl, below_alloc HB.out _⟩
  by_cases c2 : xn = 0
  case neg =>
    clear hfull
    go_enter Tryz.func123, Tryz.ntmps123
    go_wp2_with (first | (go_at_call 160; refine (spec_DocKnown.calls _ true _ HK.out).mono ?_; rintro e w1 ⟨rfl, hD⟩; have hz := blk_below (blk_new w _) hD.below; have HZ := Aside0.mk hz; have HB := Aside0.mk (below_step (B0 _) hD.below); clear hz hD; obtain ⟨z0, z1, z2, z3, z4, z5, z6, z7, y0, y1, y2, y3, y4, y5, y6, y7⟩ := HW.c8 HZ.out) | (go_at_call 161; refine (HBARE.out _).mono ?_; rintro e w2 ⟨rfl, hD⟩; have hz := blk_below HZ.out hD; clear z0 z1 z2 z3 z4 z5 z6 z7 y0 y1 y2 y3 y4 y5 y6 y7; clear HZ; have HZ := Aside0.mk hz; have HB2 := Aside0.mk (below_step HB.out hD); clear hz hD HB; have HB := HB2; clear HB2; obtain ⟨z0, z1, z2, z3, z4, z5, z6, z7, y0, y1, y2, y3, y4, y5, y6, y7⟩ := HW.c8 HZ.out))
    go_ret
    exact ⟨rfl, below_alloc HB.out _⟩
  subst c2
  by_cases c3 : xb = 0
  case neg =>
    clear hfull
    go_enter Tryz.func123, Tryz.ntmps123
    go_wp2_with (first | (go_at_call 160; refine (spec_DocKnown.calls _ true _ HK.out).mono ?_; rintro e w1 ⟨rfl, hD⟩; have hz := blk_below (blk_new w _) hD.below; have HZ := Aside0.mk hz; have HB := Aside0.mk (below_step (B0 _) hD.below); clear hz hD; obtain ⟨z0, z1, z2, z3, z4, z5, z6, z7, y0, y1, y2, y3, y4, y5, y6, y7⟩ := HW.c8 HZ.out) | (go_at_call 161; refine (HBARE.out _).mono ?_; rintro e w2 ⟨rfl, hD⟩; have hz := blk_below HZ.out hD; clear z0 z1 z2 z3 z4 z5 z6 z7 y0 y1 y2 y3 y4 y5 y6 y7; clear HZ; have HZ := Aside0.mk hz; have HB2 := Aside0.mk (below_step HB.out hD); clear hz hD HB; have HB := HB2; clear HB2; obtain ⟨z0, z1, z2, z3, z4, z5, z6, z7, y0, y1, y2, y3, y4, y5, y6, y7⟩ := HW.c8 HZ.out))
    go_ret
    exact ⟨rfl, below_alloc HB.out _⟩
  subst c3
  by_cases c4 : xh = 0
  case neg =>
    clear hfull
    go_enter Tryz.func123, Tryz.ntmps123
    go_wp2_with (first | (go_at_call 160; refine (spec_DocKnown.calls _ true _ HK.out).mono ?_; rintro e w1 ⟨rfl, hD⟩; have hz := blk_below (blk_new w _) hD.below; have HZ := Aside0.mk hz; have HB := Aside0.mk (below_step (B0 _) hD.below); clear hz hD; obtain ⟨z0, z1, z2, z3, z4, z5, z6, z7, y0, y1, y2, y3, y4, y5, y6, y7⟩ := HW.c8 HZ.out) | (go_at_call 161; refine (HBARE.out _).mono ?_; rintro e w2 ⟨rfl, hD⟩; have hz := blk_below HZ.out hD; clear z0 z1 z2 z3 z4 z5 z6 z7 y0 y1 y2 y3 y4 y5 y6 y7; clear HZ; have HZ := Aside0.mk hz; have HB2 := Aside0.mk (below_step HB.out hD); clear hz hD HB; have HB := HB2; clear HB2; obtain ⟨z0, z1, z2, z3, z4, z5, z6, z7, y0, y1, y2, y3, y4, y5, y6, y7⟩ := HW.c8 HZ.out))
    go_ret
    exact ⟨rfl, below_alloc HB.out _⟩
  subst c4
  by_cases c5 : xl = 0
  case neg =>
    clear hfull
    have e6 : ((xl : Int) != 0) = true := by simp; omega
    clear c5
    go_enter Tryz.func123, Tryz.ntmps123
    go_wp2_with (first | (go_at_call 160; refine (spec_DocKnown.calls _ true _ HK.out).mono ?_; rintro e w1 ⟨rfl, hD⟩; have hz := blk_below (blk_new w _) hD.below; have HZ := Aside0.mk hz; have HB := Aside0.mk (below_step (B0 _) hD.below); clear hz hD; obtain ⟨z0, z1, z2, z3, z4, z5, z6, z7, y0, y1, y2, y3, y4, y5, y6, y7⟩ := HW.c8 HZ.out) | (go_at_call 161; refine (HBARE.out _).mono ?_; rintro e w2 ⟨rfl, hD⟩; have hz := blk_below HZ.out hD; clear z0 z1 z2 z3 z4 z5 z6 z7 y0 y1 y2 y3 y4 y5 y6 y7; clear HZ; have HZ := Aside0.mk hz; have HB2 := Aside0.mk (below_step HB.out hD); clear hz hD HB; have HB := HB2; clear HB2; obtain ⟨z0, z1, z2, z3, z4, z5, z6, z7, y0, y1, y2, y3, y4, y5, y6, y7⟩ := HW.c8 HZ.out))
    go_ret
    exact ⟨rfl, below_alloc HB.out _⟩
  subst c5
  by_cases c6 : yl = 0
  case neg =>
    clear hfull
    have e7 : ((yl : Int) != 0) = true := by simp; omega
    clear c6
    go_enter Tryz.func123, Tryz.ntmps123
    go_wp2_with (first | (go_at_call 160; refine (spec_DocKnown.calls _ true _ HK.out).mono ?_; rintro e w1 ⟨rfl, hD⟩; have hz := blk_below (blk_new w _) hD.below; have HZ := Aside0.mk hz; have HB := Aside0.mk (below_step (B0 _) hD.below); clear hz hD; obtain ⟨z0, z1, z2, z3, z4, z5, z6, z7, y0, y1, y2, y3, y4, y5, y6, y7⟩ := HW.c8 HZ.out) | (go_at_call 161; refine (HBARE.out _).mono ?_; rintro e w2 ⟨rfl, hD⟩; have hz := blk_below HZ.out hD; clear z0 z1 z2 z3 z4 z5 z6 z7 y0 y1 y2 y3 y4 y5 y6 y7; clear HZ; have HZ := Aside0.mk hz; have HB2 := Aside0.mk (below_step HB.out hD); clear hz hD HB; have HB := HB2; clear HB2; obtain ⟨z0, z1, z2, z3, z4, z5, z6, z7, y0, y1, y2, y3, y4, y5, y6, y7⟩ := HW.c8 HZ.out))
    go_ret
    exact ⟨rfl, below_alloc HB.out _⟩
  subst c6
  exfalso
  simp [c0, c1] at hfull
theorem dr_5 (k n b h : Int) (t m : ByteArray) (AB AK : Option Addr) (B : List Int) (cB : Nat) (K : List S73) (cK : Nat) (w : World) (dd : Int) (hd : (dd == 0) = false) (hk : spec_DocKnown.f k = some true) (hbf : bareFull k t m n b h B K = true) (hkk : k = 5) :
    Calls Tryz.prog 123 #[.agg #[.int .i64 k, .string t, .string m, .int .i64 n, .int .u64 b, .int .u64 h, .slice AB B.length cB, .slice AK K.length cK], .int .i64 dd] w fun e w' => e = .returned (.bool (decide (0 ≤ n) && decide (n ≤ 255))) ∧ Below w.heap.size w w' := by
  obtain rfl := hkk; obtain ⟨xt, xm, xn, xb, xh, xA, xl, xc, yA, yl, yc, hbare, hfull⟩ := bare_gen 5 n b h t m AB AK B cB K cK; have HK := Aside0.mk hk; have HBARE := Aside0.mk hbare; have B0 : ∀ o, Below w.heap.size w (w.alloc o) := fun o => (Below.refl _ w).alloc (Nat.le_refl _) o; clear hk hbare; rw [hbf] at hfull; clear hbf
  simp only [Bool.true_eq, Bool.and_eq_true, beq_iff_eq, List.isEmpty_iff] at hfull
  obtain ⟨c0, c1, rfl, rfl, rfl, rfl, rfl⟩ := hfull
  by_cases q0 : 0 ≤ n
  · go_enter Tryz.func123, Tryz.ntmps123
    go_wp2_with (first | (go_at_call 160; refine (spec_DocKnown.calls _ true _ HK.out).mono ?_; rintro e w1 ⟨rfl, hD⟩; have hz := blk_below (blk_new w _) hD.below; have HZ := Aside0.mk hz; have HB := Aside0.mk (below_step (B0 _) hD.below); clear hz hD; obtain ⟨z0, z1, z2, z3, z4, z5, z6, z7, y0, y1, y2, y3, y4, y5, y6, y7⟩ := HW.c8 HZ.out) | (go_at_call 161; refine (HBARE.out _).mono ?_; rintro e w2 ⟨rfl, hD⟩; have hz := blk_below HZ.out hD; clear z0 z1 z2 z3 z4 z5 z6 z7 y0 y1 y2 y3 y4 y5 y6 y7; clear HZ; have HZ := Aside0.mk hz; have HB2 := Aside0.mk (below_step HB.out hD); clear hz hD HB; have HB := HB2; clear HB2; obtain ⟨z0, z1, z2, z3, z4, z5, z6, z7, y0, y1, y2, y3, y4, y5, y6, y7⟩ := HW.c8 HZ.out))
    go_ret
    exact ⟨by first | (simp [q0]; done) | (simp [q0]; omega), below_alloc HB.out _⟩
  go_enter Tryz.func123, Tryz.ntmps123
  go_wp2_with (first | (go_at_call 160; refine (spec_DocKnown.calls _ true _ HK.out).mono ?_; rintro e w1 ⟨rfl, hD⟩; have hz := blk_below (blk_new w _) hD.below; have HZ := Aside0.mk hz; have HB := Aside0.mk (below_step (B0 _) hD.below); clear hz hD; obtain ⟨z0, z1, z2, z3, z4, z5, z6, z7, y0, y1, y2, y3, y4, y5, y6, y7⟩ := HW.c8 HZ.out) | (go_at_call 161; refine (HBARE.out _).mono ?_; rintro e w2 ⟨rfl, hD⟩; have hz := blk_below HZ.out hD; clear z0 z1 z2 z3 z4 z5 z6 z7 y0 y1 y2 y3 y4 y5 y6 y7; clear HZ; have HZ := Aside0.mk hz; have HB2 := Aside0.mk (below_step HB.out hD); clear hz hD HB; have HB := HB2; clear HB2; obtain ⟨z0, z1, z2, z3, z4, z5, z6, z7, y0, y1, y2, y3, y4, y5, y6, y7⟩ := HW.c8 HZ.out))
  go_ret
  exact ⟨by first | (simp [q0]; done) | (simp [q0]; omega), below_alloc HB.out _⟩
theorem dr_7 (k n b h : Int) (t m : ByteArray) (AB AK : Option Addr) (B : List Int) (cB : Nat) (K : List S73) (cK : Nat) (w : World) (dd : Int) (hd : (dd == 0) = false) (hk : spec_DocKnown.f k = some true) (hbf : bareFull k t m n b h B K = true) (hkk : k = 7) :
    Calls Tryz.prog 123 #[.agg #[.int .i64 k, .string t, .string m, .int .i64 n, .int .u64 b, .int .u64 h, .slice AB B.length cB, .slice AK K.length cK], .int .i64 dd] w fun e w' => e = .returned (.bool (decide (B.length = 12))) ∧ Below w.heap.size w w' := by
  obtain rfl := hkk; obtain ⟨xt, xm, xn, xb, xh, xA, xl, xc, yA, yl, yc, hbare, hfull⟩ := bare_gen 7 n b h t m AB AK B cB K cK; have HK := Aside0.mk hk; have HBARE := Aside0.mk hbare; have B0 : ∀ o, Below w.heap.size w (w.alloc o) := fun o => (Below.refl _ w).alloc (Nat.le_refl _) o; clear hk hbare; rw [hbf] at hfull; clear hbf
  simp only [Bool.true_eq, Bool.and_eq_true, beq_iff_eq, List.isEmpty_iff] at hfull
  obtain ⟨c0, c1, rfl, rfl, rfl, rfl, rfl⟩ := hfull
  go_enter Tryz.func123, Tryz.ntmps123
  go_wp2_with (first | (go_at_call 160; refine (spec_DocKnown.calls _ true _ HK.out).mono ?_; rintro e w1 ⟨rfl, hD⟩; have hz := blk_below (blk_new w _) hD.below; have HZ := Aside0.mk hz; have HB := Aside0.mk (below_step (B0 _) hD.below); clear hz hD; obtain ⟨z0, z1, z2, z3, z4, z5, z6, z7, y0, y1, y2, y3, y4, y5, y6, y7⟩ := HW.c8 HZ.out) | (go_at_call 161; refine (HBARE.out _).mono ?_; rintro e w2 ⟨rfl, hD⟩; have hz := blk_below HZ.out hD; clear z0 z1 z2 z3 z4 z5 z6 z7 y0 y1 y2 y3 y4 y5 y6 y7; clear HZ; have HZ := Aside0.mk hz; have HB2 := Aside0.mk (below_step HB.out hD); clear hz hD HB; have HB := HB2; clear HB2; obtain ⟨z0, z1, z2, z3, z4, z5, z6, z7, y0, y1, y2, y3, y4, y5, y6, y7⟩ := HW.c8 HZ.out))
  go_ret
  refine ⟨?_, below_alloc HB.out _⟩
  by_cases hb : B.length = 12
  · simp [hb]
  have hb2 : ¬ ((B.length : Int) = 12) := by omega
  simp [hb, hb2]
theorem dr_12 (k n b h : Int) (t m : ByteArray) (AB AK : Option Addr) (B : List Int) (cB : Nat) (K : List S73) (cK : Nat) (w : World) (dd : Int) (hd : (dd == 0) = false) (hk : spec_DocKnown.f k = some true) (hbf : bareFull k t m n b h B K = true) (hkk : k = 12) :
    Calls Tryz.prog 123 #[.agg #[.int .i64 k, .string t, .string m, .int .i64 n, .int .u64 b, .int .u64 h, .slice AB B.length cB, .slice AK K.length cK], .int .i64 dd] w fun e w' => e = .returned (.bool (decide (B.length = 12))) ∧ Below w.heap.size w w' := by
  obtain rfl := hkk; obtain ⟨xt, xm, xn, xb, xh, xA, xl, xc, yA, yl, yc, hbare, hfull⟩ := bare_gen 12 n b h t m AB AK B cB K cK; have HK := Aside0.mk hk; have HBARE := Aside0.mk hbare; have B0 : ∀ o, Below w.heap.size w (w.alloc o) := fun o => (Below.refl _ w).alloc (Nat.le_refl _) o; clear hk hbare; rw [hbf] at hfull; clear hbf
  simp only [Bool.true_eq, Bool.and_eq_true, beq_iff_eq, List.isEmpty_iff] at hfull
  obtain ⟨c0, c1, rfl, rfl, rfl, rfl, rfl⟩ := hfull
  go_enter Tryz.func123, Tryz.ntmps123
  go_wp2_with (first | (go_at_call 160; refine (spec_DocKnown.calls _ true _ HK.out).mono ?_; rintro e w1 ⟨rfl, hD⟩; have hz := blk_below (blk_new w _) hD.below; have HZ := Aside0.mk hz; have HB := Aside0.mk (below_step (B0 _) hD.below); clear hz hD; obtain ⟨z0, z1, z2, z3, z4, z5, z6, z7, y0, y1, y2, y3, y4, y5, y6, y7⟩ := HW.c8 HZ.out) | (go_at_call 161; refine (HBARE.out _).mono ?_; rintro e w2 ⟨rfl, hD⟩; have hz := blk_below HZ.out hD; clear z0 z1 z2 z3 z4 z5 z6 z7 y0 y1 y2 y3 y4 y5 y6 y7; clear HZ; have HZ := Aside0.mk hz; have HB2 := Aside0.mk (below_step HB.out hD); clear hz hD HB; have HB := HB2; clear HB2; obtain ⟨z0, z1, z2, z3, z4, z5, z6, z7, y0, y1, y2, y3, y4, y5, y6, y7⟩ := HW.c8 HZ.out))
  go_ret
  refine ⟨?_, below_alloc HB.out _⟩
  by_cases hb : B.length = 12
  · simp [hb]
  have hb2 : ¬ ((B.length : Int) = 12) := by omega
  simp [hb, hb2]
theorem dr_8 (k n b h : Int) (t m : ByteArray) (AB AK : Option Addr) (B : List Int) (cB : Nat) (K : List S73) (cK : Nat) (w : World) (dd : Int) (hd : (dd == 0) = false) (hk : spec_DocKnown.f k = some true) (hbf : bareFull k t m n b h B K = true) (hkk : k = 8) :
    Calls Tryz.prog 123 #[.agg #[.int .i64 k, .string t, .string m, .int .i64 n, .int .u64 b, .int .u64 h, .slice AB B.length cB, .slice AK K.length cK], .int .i64 dd] w fun e w' => e = .returned (.bool (n == 0 || n == 1)) ∧ Below w.heap.size w w' := by
  obtain rfl := hkk; obtain ⟨xt, xm, xn, xb, xh, xA, xl, xc, yA, yl, yc, hbare, hfull⟩ := bare_gen 8 n b h t m AB AK B cB K cK; have HK := Aside0.mk hk; have HBARE := Aside0.mk hbare; have B0 : ∀ o, Below w.heap.size w (w.alloc o) := fun o => (Below.refl _ w).alloc (Nat.le_refl _) o; clear hk hbare; rw [hbf] at hfull; clear hbf
  simp only [Bool.true_eq, Bool.and_eq_true, beq_iff_eq, List.isEmpty_iff] at hfull
  obtain ⟨c0, c1, rfl, rfl, rfl, rfl, rfl⟩ := hfull
  by_cases q0 : n = 0
  · subst q0
    go_enter Tryz.func123, Tryz.ntmps123
    go_wp2_with (first | (go_at_call 160; refine (spec_DocKnown.calls _ true _ HK.out).mono ?_; rintro e w1 ⟨rfl, hD⟩; have hz := blk_below (blk_new w _) hD.below; have HZ := Aside0.mk hz; have HB := Aside0.mk (below_step (B0 _) hD.below); clear hz hD; obtain ⟨z0, z1, z2, z3, z4, z5, z6, z7, y0, y1, y2, y3, y4, y5, y6, y7⟩ := HW.c8 HZ.out) | (go_at_call 161; refine (HBARE.out _).mono ?_; rintro e w2 ⟨rfl, hD⟩; have hz := blk_below HZ.out hD; clear z0 z1 z2 z3 z4 z5 z6 z7 y0 y1 y2 y3 y4 y5 y6 y7; clear HZ; have HZ := Aside0.mk hz; have HB2 := Aside0.mk (below_step HB.out hD); clear hz hD HB; have HB := HB2; clear HB2; obtain ⟨z0, z1, z2, z3, z4, z5, z6, z7, y0, y1, y2, y3, y4, y5, y6, y7⟩ := HW.c8 HZ.out))
    go_ret
    exact ⟨rfl, below_alloc HB.out _⟩
  have q1 : (n == 0) = false := by simpa using q0
  go_enter Tryz.func123, Tryz.ntmps123
  go_wp2_with (first | (go_at_call 160; refine (spec_DocKnown.calls _ true _ HK.out).mono ?_; rintro e w1 ⟨rfl, hD⟩; have hz := blk_below (blk_new w _) hD.below; have HZ := Aside0.mk hz; have HB := Aside0.mk (below_step (B0 _) hD.below); clear hz hD; obtain ⟨z0, z1, z2, z3, z4, z5, z6, z7, y0, y1, y2, y3, y4, y5, y6, y7⟩ := HW.c8 HZ.out) | (go_at_call 161; refine (HBARE.out _).mono ?_; rintro e w2 ⟨rfl, hD⟩; have hz := blk_below HZ.out hD; clear z0 z1 z2 z3 z4 z5 z6 z7 y0 y1 y2 y3 y4 y5 y6 y7; clear HZ; have HZ := Aside0.mk hz; have HB2 := Aside0.mk (below_step HB.out hD); clear hz hD HB; have HB := HB2; clear HB2; obtain ⟨z0, z1, z2, z3, z4, z5, z6, z7, y0, y1, y2, y3, y4, y5, y6, y7⟩ := HW.c8 HZ.out))
  go_ret
  exact ⟨by first | (simp [q0]; done) | (simp [q0]; omega), below_alloc HB.out _⟩
theorem dr_16 (k n b h : Int) (t m : ByteArray) (AB AK : Option Addr) (B : List Int) (cB : Nat) (K : List S73) (cK : Nat) (w : World) (dd : Int) (hd : (dd == 0) = false) (hk : spec_DocKnown.f k = some true) (hbf : bareFull k t m n b h B K = true) (hkk : k = 16) :
    Calls Tryz.prog 123 #[.agg #[.int .i64 k, .string t, .string m, .int .i64 n, .int .u64 b, .int .u64 h, .slice AB B.length cB, .slice AK K.length cK], .int .i64 dd] w fun e w' => e = .returned (.bool (decide (-2147483648 ≤ n) && decide (n < 2147483648))) ∧ Below w.heap.size w w' := by
  obtain rfl := hkk; obtain ⟨xt, xm, xn, xb, xh, xA, xl, xc, yA, yl, yc, hbare, hfull⟩ := bare_gen 16 n b h t m AB AK B cB K cK; have HK := Aside0.mk hk; have HBARE := Aside0.mk hbare; have B0 : ∀ o, Below w.heap.size w (w.alloc o) := fun o => (Below.refl _ w).alloc (Nat.le_refl _) o; clear hk hbare; rw [hbf] at hfull; clear hbf
  simp only [Bool.true_eq, Bool.and_eq_true, beq_iff_eq, List.isEmpty_iff] at hfull
  obtain ⟨c0, c1, rfl, rfl, rfl, rfl, rfl⟩ := hfull
  by_cases q0 : -2147483648 ≤ n
  · go_enter Tryz.func123, Tryz.ntmps123
    go_wp2_with (first | (go_at_call 160; refine (spec_DocKnown.calls _ true _ HK.out).mono ?_; rintro e w1 ⟨rfl, hD⟩; have hz := blk_below (blk_new w _) hD.below; have HZ := Aside0.mk hz; have HB := Aside0.mk (below_step (B0 _) hD.below); clear hz hD; obtain ⟨z0, z1, z2, z3, z4, z5, z6, z7, y0, y1, y2, y3, y4, y5, y6, y7⟩ := HW.c8 HZ.out) | (go_at_call 161; refine (HBARE.out _).mono ?_; rintro e w2 ⟨rfl, hD⟩; have hz := blk_below HZ.out hD; clear z0 z1 z2 z3 z4 z5 z6 z7 y0 y1 y2 y3 y4 y5 y6 y7; clear HZ; have HZ := Aside0.mk hz; have HB2 := Aside0.mk (below_step HB.out hD); clear hz hD HB; have HB := HB2; clear HB2; obtain ⟨z0, z1, z2, z3, z4, z5, z6, z7, y0, y1, y2, y3, y4, y5, y6, y7⟩ := HW.c8 HZ.out))
    go_ret
    exact ⟨by first | (simp [q0]; done) | (simp [q0]; omega), below_alloc HB.out _⟩
  go_enter Tryz.func123, Tryz.ntmps123
  go_wp2_with (first | (go_at_call 160; refine (spec_DocKnown.calls _ true _ HK.out).mono ?_; rintro e w1 ⟨rfl, hD⟩; have hz := blk_below (blk_new w _) hD.below; have HZ := Aside0.mk hz; have HB := Aside0.mk (below_step (B0 _) hD.below); clear hz hD; obtain ⟨z0, z1, z2, z3, z4, z5, z6, z7, y0, y1, y2, y3, y4, y5, y6, y7⟩ := HW.c8 HZ.out) | (go_at_call 161; refine (HBARE.out _).mono ?_; rintro e w2 ⟨rfl, hD⟩; have hz := blk_below HZ.out hD; clear z0 z1 z2 z3 z4 z5 z6 z7 y0 y1 y2 y3 y4 y5 y6 y7; clear HZ; have HZ := Aside0.mk hz; have HB2 := Aside0.mk (below_step HB.out hD); clear hz hD HB; have HB := HB2; clear HB2; obtain ⟨z0, z1, z2, z3, z4, z5, z6, z7, y0, y1, y2, y3, y4, y5, y6, y7⟩ := HW.c8 HZ.out))
  go_ret
  exact ⟨by first | (simp [q0]; done) | (simp [q0]; omega), below_alloc HB.out _⟩
theorem dr_11 (k n b h : Int) (t m : ByteArray) (AB AK : Option Addr) (B : List Int) (cB : Nat) (K : List S73) (cK : Nat) (w : World) (dd : Int) (hd : (dd == 0) = false) (r : Bool) (hk : spec_DocKnown.f k = some true) (hbf : bareFull k t m n b h B K = true) (hkk : k = 11) (hr : ((spec_DocPlain.f (t.size + 1) t).bind fun p => (if p = false then some false else spec_DocPlain.f (m.size + 1) m)) = some r) :
    Calls Tryz.prog 123 #[.agg #[.int .i64 k, .string t, .string m, .int .i64 n, .int .u64 b, .int .u64 h, .slice AB B.length cB, .slice AK K.length cK], .int .i64 dd] w fun e w' => e = .returned (.bool r) ∧ Below w.heap.size w w' := by
  obtain rfl := hkk; obtain ⟨xt, xm, xn, xb, xh, xA, xl, xc, yA, yl, yc, hbare, hfull⟩ := bare_gen 11 n b h t m AB AK B cB K cK; have HK := Aside0.mk hk; have HBARE := Aside0.mk hbare; have B0 : ∀ o, Below w.heap.size w (w.alloc o) := fun o => (Below.refl _ w).alloc (Nat.le_refl _) o; clear hk hbare; rw [hbf] at hfull; clear hbf
  simp only [Bool.true_eq, Bool.and_eq_true, beq_iff_eq, List.isEmpty_iff] at hfull
  obtain ⟨c0, c1, rfl, rfl, rfl, rfl, rfl⟩ := hfull; obtain ⟨p0, hp0, hr⟩ := Option.bind_eq_some_iff.1 hr; have HP := Aside0.mk hp0; clear hp0
  cases p0 with
  | false =>
    obtain rfl : false = r := Option.some.inj hr; clear hr
    go_enter Tryz.func123, Tryz.ntmps123
    go_wp2_with (first | (go_at_call 160; refine (spec_DocKnown.calls _ true _ HK.out).mono ?_; rintro e w1 ⟨rfl, hD⟩; have hz := blk_below (blk_new w _) hD.below; have HZ := Aside0.mk hz; have HB := Aside0.mk (below_step (B0 _) hD.below); clear hz hD; obtain ⟨z0, z1, z2, z3, z4, z5, z6, z7, y0, y1, y2, y3, y4, y5, y6, y7⟩ := HW.c8 HZ.out) | (go_at_call 161; refine (HBARE.out _).mono ?_; rintro e w2 ⟨rfl, hD⟩; have hz := blk_below HZ.out hD; clear z0 z1 z2 z3 z4 z5 z6 z7 y0 y1 y2 y3 y4 y5 y6 y7; clear HZ; have HZ := Aside0.mk hz; have HB2 := Aside0.mk (below_step HB.out hD); clear hz hD HB; have HB := HB2; clear HB2; obtain ⟨z0, z1, z2, z3, z4, z5, z6, z7, y0, y1, y2, y3, y4, y5, y6, y7⟩ := HW.c8 HZ.out) | (go_at_call 15; (with_reducible refine (spec_DocPlain.calls (t.size + 1) t false _ HP.out).mono ?_); rintro e w3 ⟨rfl, hD⟩; have hz := blk_below (blk_alloc HZ.out _) hD.below; clear z0 z1 z2 z3 z4 z5 z6 z7 y0 y1 y2 y3 y4 y5 y6 y7; clear HZ; have HZ := Aside0.mk hz; have HB2 := Aside0.mk (below_step (below_alloc HB.out _) hD.below); clear hz hD HB; have HB := HB2; clear HB2; obtain ⟨z0, z1, z2, z3, z4, z5, z6, z7, y0, y1, y2, y3, y4, y5, y6, y7⟩ := HW.c8 HZ.out))
    go_ret
    exact ⟨rfl, HB.out⟩
  | true =>
    have hr' : spec_DocPlain.f (m.size + 1) m = some r := hr; have HR := Aside0.mk hr'; clear hr hr'
    go_enter Tryz.func123, Tryz.ntmps123
    go_wp2_with (first | (go_at_call 160; refine (spec_DocKnown.calls _ true _ HK.out).mono ?_; rintro e w1 ⟨rfl, hD⟩; have hz := blk_below (blk_new w _) hD.below; have HZ := Aside0.mk hz; have HB := Aside0.mk (below_step (B0 _) hD.below); clear hz hD; obtain ⟨z0, z1, z2, z3, z4, z5, z6, z7, y0, y1, y2, y3, y4, y5, y6, y7⟩ := HW.c8 HZ.out) | (go_at_call 161; refine (HBARE.out _).mono ?_; rintro e w2 ⟨rfl, hD⟩; have hz := blk_below HZ.out hD; clear z0 z1 z2 z3 z4 z5 z6 z7 y0 y1 y2 y3 y4 y5 y6 y7; clear HZ; have HZ := Aside0.mk hz; have HB2 := Aside0.mk (below_step HB.out hD); clear hz hD HB; have HB := HB2; clear HB2; obtain ⟨z0, z1, z2, z3, z4, z5, z6, z7, y0, y1, y2, y3, y4, y5, y6, y7⟩ := HW.c8 HZ.out) | (go_at_call 15; (with_reducible refine (spec_DocPlain.calls (t.size + 1) t true _ HP.out).mono ?_); rintro e w3 ⟨rfl, hD⟩; have hz := blk_below (blk_alloc HZ.out _) hD.below; clear z0 z1 z2 z3 z4 z5 z6 z7 y0 y1 y2 y3 y4 y5 y6 y7; clear HZ; have HZ := Aside0.mk hz; have HB2 := Aside0.mk (below_step (below_alloc HB.out _) hD.below); clear hz hD HB; have HB := HB2; clear HB2; obtain ⟨z0, z1, z2, z3, z4, z5, z6, z7, y0, y1, y2, y3, y4, y5, y6, y7⟩ := HW.c8 HZ.out) | (go_at_call 15; (with_reducible refine (spec_DocPlain.calls (m.size + 1) m r _ HR.out).mono ?_); rintro e w4 ⟨rfl, hD⟩; have HB2 := Aside0.mk (below_step HB.out hD.below); clear hD HB; have HB := HB2; clear HB2))
    go_ret
    exact ⟨rfl, HB.out⟩
def dr_T22 : Bool × List (List Nat × List Nat) := (true, [([], []), ([0], [0]), ([1], [1]), ([2], [2]), ([3, 2], [3]), ([4], [4]), ([5, 4], [4, 5]), ([6, 4], [4, 6]), ([7, 4, 4], [4, 7]), ([8], [8]), ([9, 8], [8, 9]), ([8], [8]), ([11, 8, 8], [8, 11]), ([10, 12, 8], [8, 10, 12]), ([8, 13, 4], [4, 8, 13]), ([4, 14], [4, 14]), ([15, 12], [15]), ([16], [16]), ([17, 16], [16, 17]), ([16], [16]), ([19, 16], [16, 19]), ([18, 20, 16, 16], [16, 18, 20]), ([21, 16], [16, 21]), ([16, 22], [16, 22])])
def dr_B22 : List Nat := [0, 1, 3, 7, 15, 31, 63, 127, 255, 511, 1023, 511, 2559, 8191, 16383, 32767, 65535, 131071, 262143, 131071, 655359, 2097151, 4194303, 8388607]
theorem dr_tab22 : rtab .any (opsOf Tryz.f123 22) = dr_T22 := by kernel_rfl
theorem dr_bits22 : waitsOk dr_T22.2 dr_B22 = true := by kernel_rfl
theorem dr_loop (k n b h : Int) (t m : ByteArray) (AB AK : Option Addr) (B : List Int) (cB : Nat) (K : List S73) (cK : Nat) (w : World) (d : Nat) (hd : d ≤ 1000) (r : Bool) (hk : spec_DocKnown.f k = some true) (hbf : bareFull k t m n b h B K = true) (k5 : (k == 5) = false) (k7 : (k == 7) = false) (k12 : (k == 12) = false) (k8 : (k == 8) = false) (k16 : (k == 16) = false) (k11 : (k == 11) = false) (hK : Kd.C k73 w AK K.length K)
    (ih : ∀ (k n b h : Int) (t m : ByteArray) (AB AK : Option Addr) (B : List Int) (cB : Nat) (K : List S73) (cK : Nat) (r : Bool) (w : World), Kd.C (Kd.int .u8) w AB B.length B → B.length ≤ cB → Kd.C k73 w AK K.length K → K.length ≤ cK → docR d k t m n b h B K = some r → Calls Tryz.prog 123 #[.agg #[.int .i64 k, .string t, .string m, .int .i64 n, .int .u64 b, .int .u64 h, .slice AB B.length cB, .slice AK K.length cK], .int .i64 (d : Int)] w fun e w' => e = .returned (.bool r) ∧ Below w.heap.size w w')
    (hr : docRL (fun v => docR d v.f0 v.f1 v.f2 v.f3 v.f4 v.f5 v.f6 v.f7) (k == 4) K 0 = some r) :
    Calls Tryz.prog 123 #[.agg #[.int .i64 k, .string t, .string m, .int .i64 n, .int .u64 b, .int .u64 h, .slice AB B.length cB, .slice AK K.length cK], .int .i64 ((d : Int) + 1)] w fun e w' => e = .returned (.bool r) ∧ Below w.heap.size w w' := by
  obtain ⟨xt, xm, xn, xb, xh, xA, xl, xc, yA, yl, yc, hbare, hfull⟩ := bare_gen k n b h t m AB AK B cB K cK; have HK := Aside0.mk hk; have HBARE := Aside0.mk hbare; have B0 : ∀ o, Below w.heap.size w (w.alloc o) := fun o => (Below.refl _ w).alloc (Nat.le_refl _) o; clear hk hbare; rw [hbf] at hfull; clear hbf
  simp only [Bool.true_eq, Bool.and_eq_true, beq_iff_eq, List.isEmpty_iff] at hfull
  obtain ⟨c0, c1, rfl, rfl, rfl, rfl, rfl⟩ := hfull
  have hdd : (((d : Int) + 1) == 0) = false := by simp; omega
  have hw1 : IntKind.i64.wrap (d : Int) = (d : Int) := by simp [IntKind.wrap, IntKind.bits, IntKind.signed]; omega
  have HKD := Aside0.mk hK; have HR := Aside0.mk hr; have hKl : K.length ≤ 9223372036854775807 := hK.2.1; clear hK hr
  go_enter Tryz.func123, Tryz.ntmps123
  go_wp2_with (first | (go_at_call 160; refine (spec_DocKnown.calls _ true _ HK.out).mono ?_; rintro e w1 ⟨rfl, hD⟩; have hz := blk_below (blk_new w _) hD.below; have HZ := Aside0.mk hz; have HB := Aside0.mk (below_step (B0 _) hD.below); clear hz hD; obtain ⟨z0, z1, z2, z3, z4, z5, z6, z7, y0, y1, y2, y3, y4, y5, y6, y7⟩ := HW.c8 HZ.out) | (go_at_call 161; refine (HBARE.out _).mono ?_; rintro e w2 ⟨rfl, hD⟩; have hz := blk_below HZ.out hD; clear z0 z1 z2 z3 z4 z5 z6 z7 y0 y1 y2 y3 y4 y5 y6 y7; clear HZ; have HZ := Aside0.mk hz; have HB2 := Aside0.mk (below_step HB.out hD); clear hz hD HB; have HB := HB2; clear HB2; obtain ⟨z0, z1, z2, z3, z4, z5, z6, z7, y0, y1, y2, y3, y4, y5, y6, y7⟩ := HW.c8 HZ.out))
  go_loopw [6] (fun i wr => ∃ j : Nat, i = .int .i64 j ∧ j ≤ K.length ∧ Aside0 (docRL (fun v => docR d v.f0 v.f1 v.f2 v.f3 v.f4 v.f5 v.f6 v.f7) (k == 4) (K.drop j) j = some r) ∧ Aside0 (wr.heap[w.heap.size]? = some (.cells #[.int .i64 k, .string t, .string m, .int .i64 n, .int .u64 b, .int .u64 h, .slice AB B.length cB, .slice AK K.length cK] 46 (0, 0))) ∧ Aside0 (Below w.heap.size w wr)) (fun i _ => K.length - (Go.RowKit.intOf i).toNat)
  case atStart => exact ⟨0, rfl, Nat.zero_le _, HR, ⟨blk_alloc HZ.out _⟩, ⟨below_alloc HB.out _⟩⟩
  case round =>
    clear z0 z1 z2 z3 z4 z5 z6 z7 y0 y1 y2 y3 y4 y5 y6 y7; clear HZ HB HBARE HK HR; obtain ⟨j, rfl, hj, hrj, HV, HBB⟩ := hrel; have v0 := (blk_cell HV.out 0).trans rfl; have v7 := (blk_cell HV.out 7).trans rfl
    by_cases hlt : j < K.length
    rotate_left
    · obtain rfl : j = K.length := by omega
      have hrj2 := hrj.out; rw [List.drop_length] at hrj2; obtain rfl : true = r := Option.some.inj hrj2; clear hrj hrj2
      go_wp2
      go_ret
      exact ⟨rfl, HBB.out⟩
    have hdrop : K.drop j = K[j] :: K.drop (j + 1) := List.drop_eq_getElem_cons hlt
    obtain ⟨ad, A7, c7, A8, c8, rfl, e0, e1, e2, e3, e4, e5, e6, e7, e8, l7, g7, l8, g8⟩ := at_T73 HKD.out (j : Int) (by omega) (by omega)
    have hrd : rd_T73 K (j : Int) = K[j] := by unfold rd_T73; rw [Int.toNat_natCast, List.getD_eq_getElem?_getD, List.getElem?_eq_getElem hlt]; rfl
    rw [hrd] at e0 e1 e2 e3 e4 e5 e6 e7 e8 l7 g7 l8 g8; have hrj2 := hrj.out; rw [hdrop] at hrj2; rw [docRL] at hrj2; generalize K[j] = xe at e0 e1 e2 e3 e4 e5 e6 e7 e8 l7 g7 l8 g8 hrj2; obtain ⟨s, ek, et, em, en, eb, eh, eB, eK⟩ := xe
    simp only at e0 e1 e2 e3 e4 e5 e6 e7 e8 l7 g7 l8 g8 hrj2
    rw [Int.toNat_natCast] at e0 e1 e2 e3 e4 e5 e6 e7 e8; replace e0 := (HBB.out.cell (World.block_lt_of_cell? w _ e0)).trans e0; replace e1 := (HBB.out.cell (World.block_lt_of_cell? w _ e1)).trans e1; replace e2 := (HBB.out.cell (World.block_lt_of_cell? w _ e2)).trans e2; replace e3 := (HBB.out.cell (World.block_lt_of_cell? w _ e3)).trans e3; replace e4 := (HBB.out.cell (World.block_lt_of_cell? w _ e4)).trans e4; replace e5 := (HBB.out.cell (World.block_lt_of_cell? w _ e5)).trans e5; replace e6 := (HBB.out.cell (World.block_lt_of_cell? w _ e6)).trans e6; replace e7 := (HBB.out.cell (World.block_lt_of_cell? w _ e7)).trans e7; replace e8 := (HBB.out.cell (World.block_lt_of_cell? w _ e8)).trans e8; obtain ⟨ok, ho, hrj2⟩ := Option.bind_eq_some_iff.1 hrj2
    unfold nameOk at ho
    obtain ⟨pl, hp, ho⟩ := Option.bind_eq_some_iff.1 ho; have HP := Aside0.mk hp; clear hp hrj hdrop hrd; have HRJ := Aside0.mk hrj2; have HO := Aside0.mk ho; clear hrj2 ho; have g7 := Aside0.mk g7; have g8 := Aside0.mk g8
    cases pl with
    | false =>
      obtain rfl : false = ok := Option.some.inj HO.out; obtain rfl : false = r := Option.some.inj HRJ.out; clear HO HRJ
      go_wp2
      have hnew := blk_new wr (.cells #[.string s, .int .i64 ek, .string et, .string em, .int .i64 en, .int .u64 eb, .int .u64 eh, .slice A7 eB.length c7, .slice A8 eK.length c8] 73); have hv2 := blk_alloc HV.out (.cells #[.string s, .int .i64 ek, .string et, .string em, .int .i64 en, .int .u64 eb, .int .u64 eh, .slice A7 eB.length c7, .slice A8 eK.length c8] 73); have hb2 := below_alloc HBB.out (.cells #[.string s, .int .i64 ek, .string et, .string em, .int .i64 en, .int .u64 eb, .int .u64 eh, .slice A7 eB.length c7, .slice A8 eK.length c8] 73); have HE := Aside0.mk hnew; clear HV HBB v0 v7; have HV := Aside0.mk hv2; have HBB := Aside0.mk hb2; clear hnew hv2 hb2 e0 e1 e2 e3 e4 e5 e6 e7 e8; have x0 := (blk_cell HE.out 0).trans rfl; have x1 := (blk_cell HE.out 1).trans rfl; have x2 := (blk_cell HE.out 2).trans rfl; have x3 := (blk_cell HE.out 3).trans rfl; have x4 := (blk_cell HE.out 4).trans rfl; have x5 := (blk_cell HE.out 5).trans rfl; have x6 := (blk_cell HE.out 6).trans rfl; have x7 := (blk_cell HE.out 7).trans rfl; have x8 := (blk_cell HE.out 8).trans rfl; have v0 := (blk_cell HV.out 0).trans rfl; have hv2 := blk_drew HV.out; have he2 := blk_drew HE.out; have hb2 := below_drew1 HBB.out; clear HE HV HBB x0 x1 x2 x3 x4 x5 x6 x7 x8 v0; have HE := Aside0.mk he2; have HV := Aside0.mk hv2; have HBB := Aside0.mk hb2; clear he2 hv2 hb2
      refine start_ (n := 24) (S := (fun w' => w'.cell? ⟨wr.heap.size, 0, none⟩ = some (.string s) ∧ w'.cell? ⟨wr.heap.size, 1, none⟩ = some (.int .i64 ek) ∧ w'.cell? ⟨wr.heap.size, 2, none⟩ = some (.string et) ∧ w'.cell? ⟨wr.heap.size, 3, none⟩ = some (.string em) ∧ w'.cell? ⟨wr.heap.size, 4, none⟩ = some (.int .i64 en) ∧ w'.cell? ⟨wr.heap.size, 5, none⟩ = some (.int .u64 eb) ∧ w'.cell? ⟨wr.heap.size, 6, none⟩ = some (.int .u64 eh) ∧ w'.cell? ⟨wr.heap.size, 7, none⟩ = some (.slice A7 eB.length c7) ∧ w'.cell? ⟨wr.heap.size, 8, none⟩ = some (.slice A8 eK.length c8) ∧ w'.cell? ⟨w.heap.size, 0, none⟩ = some (.int .i64 k))) (ds := []) #[ff,ff,ff,ff,ff,ff,ff,ff,ff,ff,ff,ff,ff,ff,ff,ff,ff,ff,ff,ff,ff,ff,ff,ff] (by kernel_rfl) rfl rfl ⟨(blk_cell HE.out 0).trans rfl, (blk_cell HE.out 1).trans rfl, (blk_cell HE.out 2).trans rfl, (blk_cell HE.out 3).trans rfl, (blk_cell HE.out 4).trans rfl, (blk_cell HE.out 5).trans rfl, (blk_cell HE.out 6).trans rfl, (blk_cell HE.out 7).trans rfl, (blk_cell HE.out 8).trans rfl, (blk_cell HV.out 0).trans rfl⟩ (fun hHeld => ?_)
      refine with_tabW dr_tab22 dr_bits22 (fun HT_ HW_ => ?_)
      generalize World.drew (wr.alloc _) = wb at HE HV HBB hHeld ⊢
      refine HW.pz (i := 0) (N := some 114) #[tt,ff,ff,ff,ff,ff,ff,ff,ff,ff,ff,ff,ff,ff,ff,ff,ff,ff,ff,ff,ff,ff,ff,ff] ?_ (hc := any_of HT_.out (by kernel_rfl))
      refine take_ (i := 1) (N := some 115) (v := ?_) (a' := ?_) #[tt,tt,ff,ff,ff,ff,ff,ff,ff,ff,ff,ff,ff,ff,ff,ff,ff,ff,ff,ff,ff,ff,ff,ff] rfl rfl (take_ofW HT_.out HW_.out (by kernel_rfl)) (fun _ _ _ h => h) (Or.inl ⟨by rfl, ?_⟩) hHeld ?_ ?_
      rotate_left
      · rintro w' ⟨s0, s1, s2, s3, s4, s5, s6, s7, s8, s9⟩
        go_simp
        with_reducible rfl
      rotate_left
      · exact HW.pt
      refine one_ (i := 2) (N := some 116) #[tt,tt,tt,ff,ff,ff,ff,ff,ff,ff,ff,ff,ff,ff,ff,ff,ff,ff,ff,ff,ff,ff,ff,ff] rfl rfl (one_of HT_.out (by kernel_rfl)) (by decide) (fun K_ hK => ?_)
      refine goes_ Tryz.func15 (by kernel_rfl) rfl #[.string s] (by rfl) rfl rfl HW.mt ?_
      with_reducible refine (spec_DocPlain.calls (s.size + 1) s false _ HP.out).mono ?_
      rintro e w5 ⟨rfl, hD⟩
      have hD2 := hD.below; clear hD
      refine ⟨_, rfl, ?_⟩
      have he2 := blk_below HE.out hD2; have hv2 := blk_below HV.out hD2; have hb2 := below_step HBB.out hD2; clear HE HV HBB hD2; have HE := Aside0.mk he2; have HV := Aside0.mk hv2; have HBB := Aside0.mk hb2; clear he2 hv2 hb2
      refine hK.out _ _ ⟨(blk_cell HE.out 0).trans rfl, (blk_cell HE.out 1).trans rfl, (blk_cell HE.out 2).trans rfl, (blk_cell HE.out 3).trans rfl, (blk_cell HE.out 4).trans rfl, (blk_cell HE.out 5).trans rfl, (blk_cell HE.out 6).trans rfl, (blk_cell HE.out 7).trans rfl, (blk_cell HE.out 8).trans rfl, (blk_cell HV.out 0).trans rfl⟩ (fun hHeld => ?_)
      clear hK K_
      refine HW.nz (N := (some 116)) ?_
      refine HW.pz (i := 3) (N := some 117) #[tt,tt,tt,tt,ff,ff,ff,ff,ff,ff,ff,ff,ff,ff,ff,ff,ff,ff,ff,ff,ff,ff,ff,ff] ?_ (hc := any_of HT_.out (by kernel_rfl))
      refine HW.pz (i := 4) (N := some 118) #[tt,tt,tt,tt,tt,ff,ff,ff,ff,ff,ff,ff,ff,ff,ff,ff,ff,ff,ff,ff,ff,ff,ff,ff] ?_ (hc := any_of HT_.out (by kernel_rfl))
      refine pure_ (i := 5) (N := some 119) (v := undef) (a' := ?_) #[tt,tt,tt,tt,tt,tt,ff,ff,ff,ff,ff,ff,ff,ff,ff,ff,ff,ff,ff,ff,ff,ff,ff,ff] rfl rfl (any_of HT_.out (by kernel_rfl)) (fun _ _ _ h => h) (Or.inr ⟨by rfl, rfl⟩) ?_ ?_
      rotate_left
      · exact HW.pt
      refine pure_ (i := 6) (N := some 120) (v := undef) (a' := ?_) #[tt,tt,tt,tt,tt,tt,tt,ff,ff,ff,ff,ff,ff,ff,ff,ff,ff,ff,ff,ff,ff,ff,ff,ff] rfl rfl (any_of HT_.out (by kernel_rfl)) (fun _ _ _ h => h) (Or.inr ⟨by rfl, rfl⟩) ?_ ?_
      rotate_left
      · exact HW.pt
      refine pure_ (i := 7) (N := some 121) (v := undef) (a' := ?_) #[tt,tt,tt,tt,tt,tt,tt,tt,ff,ff,ff,ff,ff,ff,ff,ff,ff,ff,ff,ff,ff,ff,ff,ff] rfl rfl (any_of HT_.out (by kernel_rfl)) (fun _ _ _ h => h) (Or.inr ⟨by rfl, rfl⟩) ?_ ?_
      rotate_left
      · exact HW.pt
      refine pure_ (i := 8) (N := some 122) (v := undef) (a' := ?_) #[tt,tt,tt,tt,tt,tt,tt,tt,tt,ff,ff,ff,ff,ff,ff,ff,ff,ff,ff,ff,ff,ff,ff,ff] rfl rfl (any_of HT_.out (by kernel_rfl)) (fun _ _ _ h => h) (Or.inr ⟨by rfl, rfl⟩) ?_ ?_
      rotate_left
      · exact HW.pt
      refine pure_ (i := 9) (N := some 123) (v := undef) (a' := ?_) #[tt,tt,tt,tt,tt,tt,tt,tt,tt,tt,ff,ff,ff,ff,ff,ff,ff,ff,ff,ff,ff,ff,ff,ff] rfl rfl (any_of HT_.out (by kernel_rfl)) (fun _ _ _ h => h) (Or.inr ⟨by rfl, rfl⟩) ?_ ?_
      rotate_left
      · exact HW.pt
      refine pure_ (i := 11) (N := some 125) (v := undef) (a' := ?_) #[tt,tt,tt,tt,tt,tt,tt,tt,tt,tt,ff,tt,ff,ff,ff,ff,ff,ff,ff,ff,ff,ff,ff,ff] rfl rfl (any_of HT_.out (by kernel_rfl)) (fun _ _ _ h => h) (Or.inr ⟨by rfl, rfl⟩) ?_ ?_
      rotate_left
      · exact HW.pt
      refine pure_ (i := 10) (N := some 124) (v := undef) (a' := ?_) #[tt,tt,tt,tt,tt,tt,tt,tt,tt,tt,tt,tt,ff,ff,ff,ff,ff,ff,ff,ff,ff,ff,ff,ff] rfl rfl (any_of HT_.out (by kernel_rfl)) (fun _ _ _ h => h) (Or.inr ⟨by rfl, rfl⟩) ?_ ?_
      rotate_left
      · exact HW.pt
      refine pure_ (i := 12) (N := some 126) (v := undef) (a' := ?_) #[tt,tt,tt,tt,tt,tt,tt,tt,tt,tt,tt,tt,tt,ff,ff,ff,ff,ff,ff,ff,ff,ff,ff,ff] rfl rfl (any_of HT_.out (by kernel_rfl)) (fun _ _ _ h => h) (Or.inr ⟨by rfl, rfl⟩) ?_ ?_
      rotate_left
      · exact HW.pt
      refine pure_ (i := 13) (N := some 127) (v := undef) (a' := ?_) #[tt,tt,tt,tt,tt,tt,tt,tt,tt,tt,tt,tt,tt,tt,ff,ff,ff,ff,ff,ff,ff,ff,ff,ff] rfl rfl (any_of HT_.out (by kernel_rfl)) (fun _ _ _ h => h) (Or.inr ⟨by rfl, rfl⟩) ?_ ?_
      rotate_left
      · exact HW.pt
      refine pure_ (i := 14) (N := some 128) (v := undef) (a' := ?_) #[tt,tt,tt,tt,tt,tt,tt,tt,tt,tt,tt,tt,tt,tt,tt,ff,ff,ff,ff,ff,ff,ff,ff,ff] rfl rfl (any_of HT_.out (by kernel_rfl)) (fun _ _ _ h => h) (Or.inr ⟨by rfl, rfl⟩) ?_ ?_
      rotate_left
      · exact HW.pt
      refine HW.pz (i := 15) (N := some 129) #[tt,tt,tt,tt,tt,tt,tt,tt,tt,tt,tt,tt,tt,tt,tt,tt,ff,ff,ff,ff,ff,ff,ff,ff] ?_ (hc := any_of HT_.out (by kernel_rfl))
      refine HW.pz (i := 16) (N := some 130) #[tt,tt,tt,tt,tt,tt,tt,tt,tt,tt,tt,tt,tt,tt,tt,tt,tt,ff,ff,ff,ff,ff,ff,ff] ?_ (hc := any_of HT_.out (by kernel_rfl))
      refine pure_ (i := 17) (N := some 131) (v := undef) (a' := ?_) #[tt,tt,tt,tt,tt,tt,tt,tt,tt,tt,tt,tt,tt,tt,tt,tt,tt,tt,ff,ff,ff,ff,ff,ff] rfl rfl (any_of HT_.out (by kernel_rfl)) (fun _ _ _ h => h) (Or.inr ⟨by rfl, rfl⟩) ?_ ?_
      rotate_left
      · exact HW.pt
      refine pure_ (i := 19) (N := some 133) (v := undef) (a' := ?_) #[tt,tt,tt,tt,tt,tt,tt,tt,tt,tt,tt,tt,tt,tt,tt,tt,tt,tt,ff,tt,ff,ff,ff,ff] rfl rfl (any_of HT_.out (by kernel_rfl)) (fun _ _ _ h => h) (Or.inr ⟨by rfl, rfl⟩) ?_ ?_
      rotate_left
      · exact HW.pt
      refine pure_ (i := 20) (N := some 134) (v := undef) (a' := ?_) #[tt,tt,tt,tt,tt,tt,tt,tt,tt,tt,tt,tt,tt,tt,tt,tt,tt,tt,ff,tt,tt,ff,ff,ff] rfl rfl (any_of HT_.out (by kernel_rfl)) (fun _ _ _ h => h) (Or.inr ⟨by rfl, rfl⟩) ?_ ?_
      rotate_left
      · exact HW.pt
      refine pure_ (i := 18) (N := some 132) (v := undef) (a' := ?_) #[tt,tt,tt,tt,tt,tt,tt,tt,tt,tt,tt,tt,tt,tt,tt,tt,tt,tt,tt,tt,tt,ff,ff,ff] rfl rfl (any_of HT_.out (by kernel_rfl)) (fun _ _ _ h => h) (Or.inr ⟨by rfl, rfl⟩) ?_ ?_
      rotate_left
      · exact HW.pt
      refine pure_ (i := 21) (N := some 135) (v := undef) (a' := ?_) #[tt,tt,tt,tt,tt,tt,tt,tt,tt,tt,tt,tt,tt,tt,tt,tt,tt,tt,tt,tt,tt,tt,ff,ff] rfl rfl (any_of HT_.out (by kernel_rfl)) (fun _ _ _ h => h) (Or.inr ⟨by rfl, rfl⟩) ?_ ?_
      rotate_left
      · exact HW.pt
      refine pure_ (i := 22) (N := some 136) (v := undef) (a' := ?_) #[tt,tt,tt,tt,tt,tt,tt,tt,tt,tt,tt,tt,tt,tt,tt,tt,tt,tt,tt,tt,tt,tt,tt,ff] rfl rfl (any_of HT_.out (by kernel_rfl)) (fun _ _ _ h => h) (Or.inr ⟨by rfl, rfl⟩) ?_ ?_
      rotate_left
      · exact HW.pt
      refine HW.pz (i := 23) (N := some 137) #[tt,tt,tt,tt,tt,tt,tt,tt,tt,tt,tt,tt,tt,tt,tt,tt,tt,tt,tt,tt,tt,tt,tt,tt] ?_ (hc := any_of HT_.out (by kernel_rfl))
      refine done_ (done_of HT_.out (by kernel_rfl)) ?_
      go_wp2
      go_ret
      exact ⟨rfl, HBB.out⟩
    | true =>
      have ho : (if (k == 4) = true then (spec_DocDigits.f 64 (j : Int)).bind fun dg => some (s.toList == dg.toList) else some true) = some ok := HO.out
      by_cases harr : (k == 4) = true
      rotate_left
      · have hk4 : (k == 4) = false := by simpa using harr
        rw [if_neg harr] at ho; obtain rfl : true = ok := Option.some.inj ho; clear HO ho harr; obtain ⟨q, hq, hrj2⟩ := Option.bind_eq_some_iff.1 HRJ.out; have HQ := Aside0.mk hq; have HRJ2 := Aside0.mk hrj2; clear hq hrj2 HRJ
        cases q with
        | false =>
          obtain rfl : false = r := Option.some.inj HRJ2.out; clear HRJ2
          go_wp2
          have hnew := blk_new wr (.cells #[.string s, .int .i64 ek, .string et, .string em, .int .i64 en, .int .u64 eb, .int .u64 eh, .slice A7 eB.length c7, .slice A8 eK.length c8] 73); have hv2 := blk_alloc HV.out (.cells #[.string s, .int .i64 ek, .string et, .string em, .int .i64 en, .int .u64 eb, .int .u64 eh, .slice A7 eB.length c7, .slice A8 eK.length c8] 73); have hb2 := below_alloc HBB.out (.cells #[.string s, .int .i64 ek, .string et, .string em, .int .i64 en, .int .u64 eb, .int .u64 eh, .slice A7 eB.length c7, .slice A8 eK.length c8] 73); have HE := Aside0.mk hnew; clear HV HBB v0 v7; have HV := Aside0.mk hv2; have HBB := Aside0.mk hb2; clear hnew hv2 hb2 e0 e1 e2 e3 e4 e5 e6 e7 e8; have x0 := (blk_cell HE.out 0).trans rfl; have x1 := (blk_cell HE.out 1).trans rfl; have x2 := (blk_cell HE.out 2).trans rfl; have x3 := (blk_cell HE.out 3).trans rfl; have x4 := (blk_cell HE.out 4).trans rfl; have x5 := (blk_cell HE.out 5).trans rfl; have x6 := (blk_cell HE.out 6).trans rfl; have x7 := (blk_cell HE.out 7).trans rfl; have x8 := (blk_cell HE.out 8).trans rfl; have v0 := (blk_cell HV.out 0).trans rfl; have hv2 := blk_drew HV.out; have he2 := blk_drew HE.out; have hb2 := below_drew1 HBB.out; clear HE HV HBB x0 x1 x2 x3 x4 x5 x6 x7 x8 v0; have HE := Aside0.mk he2; have HV := Aside0.mk hv2; have HBB := Aside0.mk hb2; clear he2 hv2 hb2
          refine start_ (n := 24) (S := (fun w' => w'.cell? ⟨wr.heap.size, 0, none⟩ = some (.string s) ∧ w'.cell? ⟨wr.heap.size, 1, none⟩ = some (.int .i64 ek) ∧ w'.cell? ⟨wr.heap.size, 2, none⟩ = some (.string et) ∧ w'.cell? ⟨wr.heap.size, 3, none⟩ = some (.string em) ∧ w'.cell? ⟨wr.heap.size, 4, none⟩ = some (.int .i64 en) ∧ w'.cell? ⟨wr.heap.size, 5, none⟩ = some (.int .u64 eb) ∧ w'.cell? ⟨wr.heap.size, 6, none⟩ = some (.int .u64 eh) ∧ w'.cell? ⟨wr.heap.size, 7, none⟩ = some (.slice A7 eB.length c7) ∧ w'.cell? ⟨wr.heap.size, 8, none⟩ = some (.slice A8 eK.length c8) ∧ w'.cell? ⟨w.heap.size, 0, none⟩ = some (.int .i64 k))) (ds := []) #[ff,ff,ff,ff,ff,ff,ff,ff,ff,ff,ff,ff,ff,ff,ff,ff,ff,ff,ff,ff,ff,ff,ff,ff] (by kernel_rfl) rfl rfl ⟨(blk_cell HE.out 0).trans rfl, (blk_cell HE.out 1).trans rfl, (blk_cell HE.out 2).trans rfl, (blk_cell HE.out 3).trans rfl, (blk_cell HE.out 4).trans rfl, (blk_cell HE.out 5).trans rfl, (blk_cell HE.out 6).trans rfl, (blk_cell HE.out 7).trans rfl, (blk_cell HE.out 8).trans rfl, (blk_cell HV.out 0).trans rfl⟩ (fun hHeld => ?_)
          refine with_tabW dr_tab22 dr_bits22 (fun HT_ HW_ => ?_)
          generalize World.drew (wr.alloc _) = wb at HE HV HBB hHeld ⊢
          refine HW.pz (i := 0) (N := some 114) #[tt,ff,ff,ff,ff,ff,ff,ff,ff,ff,ff,ff,ff,ff,ff,ff,ff,ff,ff,ff,ff,ff,ff,ff] ?_ (hc := any_of HT_.out (by kernel_rfl))
          refine take_ (i := 1) (N := some 115) (v := ?_) (a' := ?_) #[tt,tt,ff,ff,ff,ff,ff,ff,ff,ff,ff,ff,ff,ff,ff,ff,ff,ff,ff,ff,ff,ff,ff,ff] rfl rfl (take_ofW HT_.out HW_.out (by kernel_rfl)) (fun _ _ _ h => h) (Or.inl ⟨by rfl, ?_⟩) hHeld ?_ ?_
          rotate_left
          · rintro w' ⟨s0, s1, s2, s3, s4, s5, s6, s7, s8, s9⟩
            go_simp
            with_reducible rfl
          rotate_left
          · exact HW.pt
          refine one_ (i := 2) (N := some 116) #[tt,tt,tt,ff,ff,ff,ff,ff,ff,ff,ff,ff,ff,ff,ff,ff,ff,ff,ff,ff,ff,ff,ff,ff] rfl rfl (one_of HT_.out (by kernel_rfl)) (by decide) (fun K_ hK => ?_)
          refine goes_ Tryz.func15 (by kernel_rfl) rfl #[.string s] (by rfl) rfl rfl HW.mt ?_
          with_reducible refine (spec_DocPlain.calls (s.size + 1) s true _ HP.out).mono ?_
          rintro e w5 ⟨rfl, hD⟩
          have hD2 := hD.below; clear hD
          refine ⟨_, rfl, ?_⟩
          have he2 := blk_below HE.out hD2; have hv2 := blk_below HV.out hD2; have hb2 := below_step HBB.out hD2; clear HE HV HBB hD2; have HE := Aside0.mk he2; have HV := Aside0.mk hv2; have HBB := Aside0.mk hb2; clear he2 hv2 hb2
          refine hK.out _ _ ⟨(blk_cell HE.out 0).trans rfl, (blk_cell HE.out 1).trans rfl, (blk_cell HE.out 2).trans rfl, (blk_cell HE.out 3).trans rfl, (blk_cell HE.out 4).trans rfl, (blk_cell HE.out 5).trans rfl, (blk_cell HE.out 6).trans rfl, (blk_cell HE.out 7).trans rfl, (blk_cell HE.out 8).trans rfl, (blk_cell HV.out 0).trans rfl⟩ (fun hHeld => ?_)
          clear hK K_
          refine HW.nz (N := (some 116)) ?_
          refine HW.pz (i := 3) (N := some 117) #[tt,tt,tt,tt,ff,ff,ff,ff,ff,ff,ff,ff,ff,ff,ff,ff,ff,ff,ff,ff,ff,ff,ff,ff] ?_ (hc := any_of HT_.out (by kernel_rfl))
          refine HW.pz (i := 4) (N := some 118) #[tt,tt,tt,tt,tt,ff,ff,ff,ff,ff,ff,ff,ff,ff,ff,ff,ff,ff,ff,ff,ff,ff,ff,ff] ?_ (hc := any_of HT_.out (by kernel_rfl))
          refine HW.pz (i := 5) (N := some 119) #[tt,tt,tt,tt,tt,tt,ff,ff,ff,ff,ff,ff,ff,ff,ff,ff,ff,ff,ff,ff,ff,ff,ff,ff] ?_ (hc := any_of HT_.out (by kernel_rfl))
          refine take_ (i := 6) (N := some 120) (v := ?_) (a' := ?_) #[tt,tt,tt,tt,tt,tt,tt,ff,ff,ff,ff,ff,ff,ff,ff,ff,ff,ff,ff,ff,ff,ff,ff,ff] rfl rfl (take_ofW HT_.out HW_.out (by kernel_rfl)) (fun _ _ _ h => h) (Or.inl ⟨by rfl, ?_⟩) hHeld ?_ ?_
          rotate_left
          · rintro w' ⟨s0, s1, s2, s3, s4, s5, s6, s7, s8, s9⟩
            go_simp
            with_reducible rfl
          rotate_left
          · exact HW.pt
          refine HW.pz (i := 7) (N := some 121) #[tt,tt,tt,tt,tt,tt,tt,tt,ff,ff,ff,ff,ff,ff,ff,ff,ff,ff,ff,ff,ff,ff,ff,ff] ?_ (hc := any_of HT_.out (by kernel_rfl))
          refine HW.pz (i := 8) (N := some 122) #[tt,tt,tt,tt,tt,tt,tt,tt,tt,ff,ff,ff,ff,ff,ff,ff,ff,ff,ff,ff,ff,ff,ff,ff] ?_ (hc := any_of HT_.out (by kernel_rfl))
          refine pure_ (i := 9) (N := some 123) (v := undef) (a' := ?_) #[tt,tt,tt,tt,tt,tt,tt,tt,tt,tt,ff,ff,ff,ff,ff,ff,ff,ff,ff,ff,ff,ff,ff,ff] rfl rfl (any_of HT_.out (by kernel_rfl)) (fun _ _ _ h => h) (Or.inr ⟨by rfl, rfl⟩) ?_ ?_
          rotate_left
          · exact HW.pt
          refine pure_ (i := 11) (N := some 125) (v := undef) (a' := ?_) #[tt,tt,tt,tt,tt,tt,tt,tt,tt,tt,ff,tt,ff,ff,ff,ff,ff,ff,ff,ff,ff,ff,ff,ff] rfl rfl (any_of HT_.out (by kernel_rfl)) (fun _ _ _ h => h) (Or.inr ⟨by rfl, rfl⟩) ?_ ?_
          rotate_left
          · exact HW.pt
          refine pure_ (i := 10) (N := some 124) (v := undef) (a' := ?_) #[tt,tt,tt,tt,tt,tt,tt,tt,tt,tt,tt,tt,ff,ff,ff,ff,ff,ff,ff,ff,ff,ff,ff,ff] rfl rfl (any_of HT_.out (by kernel_rfl)) (fun _ _ _ h => h) (Or.inr ⟨by rfl, rfl⟩) ?_ ?_
          rotate_left
          · exact HW.pt
          refine pure_ (i := 12) (N := some 126) (v := undef) (a' := ?_) #[tt,tt,tt,tt,tt,tt,tt,tt,tt,tt,tt,tt,tt,ff,ff,ff,ff,ff,ff,ff,ff,ff,ff,ff] rfl rfl (any_of HT_.out (by kernel_rfl)) (fun _ _ _ h => h) (Or.inr ⟨by rfl, rfl⟩) ?_ ?_
          rotate_left
          · exact HW.pt
          refine pure_ (i := 13) (N := some 127) (v := undef) (a' := ?_) #[tt,tt,tt,tt,tt,tt,tt,tt,tt,tt,tt,tt,tt,tt,ff,ff,ff,ff,ff,ff,ff,ff,ff,ff] rfl rfl (any_of HT_.out (by kernel_rfl)) (fun _ _ _ h => h) (Or.inr ⟨by rfl, rfl⟩) ?_ ?_
          rotate_left
          · exact HW.pt
          refine HW.pz (i := 14) (N := some 128) #[tt,tt,tt,tt,tt,tt,tt,tt,tt,tt,tt,tt,tt,tt,tt,ff,ff,ff,ff,ff,ff,ff,ff,ff] ?_ (hc := any_of HT_.out (by kernel_rfl))
          refine HW.pz (i := 15) (N := some 129) #[tt,tt,tt,tt,tt,tt,tt,tt,tt,tt,tt,tt,tt,tt,tt,tt,ff,ff,ff,ff,ff,ff,ff,ff] ?_ (hc := any_of HT_.out (by kernel_rfl))
          refine HW.pz (i := 16) (N := some 130) #[tt,tt,tt,tt,tt,tt,tt,tt,tt,tt,tt,tt,tt,tt,tt,tt,tt,ff,ff,ff,ff,ff,ff,ff] ?_ (hc := any_of HT_.out (by kernel_rfl))
          refine HW.pz (i := 17) (N := some 131) #[tt,tt,tt,tt,tt,tt,tt,tt,tt,tt,tt,tt,tt,tt,tt,tt,tt,tt,ff,ff,ff,ff,ff,ff] ?_ (hc := any_of HT_.out (by kernel_rfl))
          refine HW.pz (i := 19) (N := some 133) #[tt,tt,tt,tt,tt,tt,tt,tt,tt,tt,tt,tt,tt,tt,tt,tt,tt,tt,ff,tt,ff,ff,ff,ff] ?_ (hc := any_of HT_.out (by kernel_rfl))
          refine HW.pz (i := 20) (N := some 134) #[tt,tt,tt,tt,tt,tt,tt,tt,tt,tt,tt,tt,tt,tt,tt,tt,tt,tt,ff,tt,tt,ff,ff,ff] ?_ (hc := any_of HT_.out (by kernel_rfl))
          refine take_ (i := 18) (N := some 132) (v := ?_) (a' := ?_) #[tt,tt,tt,tt,tt,tt,tt,tt,tt,tt,tt,tt,tt,tt,tt,tt,tt,tt,tt,tt,tt,ff,ff,ff] rfl rfl (take_ofW HT_.out HW_.out (by kernel_rfl)) (fun _ _ _ h => h) (Or.inl ⟨by rfl, ?_⟩) hHeld ?_ ?_
          rotate_left
          · rintro w' ⟨s0, s1, s2, s3, s4, s5, s6, s7, s8, s9⟩
            go_simp
            with_reducible rfl
          rotate_left
          · exact HW.pt
          refine one_ (i := 21) (N := some 135) #[tt,tt,tt,tt,tt,tt,tt,tt,tt,tt,tt,tt,tt,tt,tt,tt,tt,tt,tt,tt,tt,tt,ff,ff] rfl rfl (one_of HT_.out (by kernel_rfl)) (by decide) (fun K_ hK => ?_)
          refine goes_ Tryz.func123 (by kernel_rfl) rfl #[.agg #[.int .i64 ek, .string et, .string em, .int .i64 en, .int .u64 eb, .int .u64 eh, .slice A7 eB.length c7, .slice A8 eK.length c8], .int .i64 (d : Int)] (by rfl) rfl rfl HW.mt ?_
          refine (ih _ _ _ _ _ _ _ _ _ _ _ _ false _ (Kd.C_below g7.out HBB.out) l7 (Kd.C_below g8.out HBB.out) l8 HQ.out).mono ?_
          rintro e w7 ⟨rfl, hD2⟩
          refine ⟨_, rfl, ?_⟩
          have he2 := blk_below HE.out hD2; have hv2 := blk_below HV.out hD2; have hb2 := below_step HBB.out hD2; clear HE HV HBB hD2; have HE := Aside0.mk he2; have HV := Aside0.mk hv2; have HBB := Aside0.mk hb2; clear he2 hv2 hb2
          refine hK.out _ _ ⟨(blk_cell HE.out 0).trans rfl, (blk_cell HE.out 1).trans rfl, (blk_cell HE.out 2).trans rfl, (blk_cell HE.out 3).trans rfl, (blk_cell HE.out 4).trans rfl, (blk_cell HE.out 5).trans rfl, (blk_cell HE.out 6).trans rfl, (blk_cell HE.out 7).trans rfl, (blk_cell HE.out 8).trans rfl, (blk_cell HV.out 0).trans rfl⟩ (fun hHeld => ?_)
          clear hK K_
          refine HW.nz (N := (some 135)) ?_
          refine HW.pz (i := 22) (N := some 136) #[tt,tt,tt,tt,tt,tt,tt,tt,tt,tt,tt,tt,tt,tt,tt,tt,tt,tt,tt,tt,tt,tt,tt,ff] ?_ (hc := any_of HT_.out (by kernel_rfl))
          refine HW.pz (i := 23) (N := some 137) #[tt,tt,tt,tt,tt,tt,tt,tt,tt,tt,tt,tt,tt,tt,tt,tt,tt,tt,tt,tt,tt,tt,tt,tt] ?_ (hc := any_of HT_.out (by kernel_rfl))
          refine done_ (done_of HT_.out (by kernel_rfl)) ?_
          go_wp2
          go_ret
          exact ⟨rfl, HBB.out⟩
        | true =>
          have hrest : docRL (fun v => docR d v.f0 v.f1 v.f2 v.f3 v.f4 v.f5 v.f6 v.f7) (k == 4) (K.drop (j + 1)) ((j : Int) + 1) = some r := HRJ2.out; have HREST := Aside0.mk hrest; clear HRJ2 hrest
          go_wp2
          have hnew := blk_new wr (.cells #[.string s, .int .i64 ek, .string et, .string em, .int .i64 en, .int .u64 eb, .int .u64 eh, .slice A7 eB.length c7, .slice A8 eK.length c8] 73); have hv2 := blk_alloc HV.out (.cells #[.string s, .int .i64 ek, .string et, .string em, .int .i64 en, .int .u64 eb, .int .u64 eh, .slice A7 eB.length c7, .slice A8 eK.length c8] 73); have hb2 := below_alloc HBB.out (.cells #[.string s, .int .i64 ek, .string et, .string em, .int .i64 en, .int .u64 eb, .int .u64 eh, .slice A7 eB.length c7, .slice A8 eK.length c8] 73); have HE := Aside0.mk hnew; clear HV HBB v0 v7; have HV := Aside0.mk hv2; have HBB := Aside0.mk hb2; clear hnew hv2 hb2 e0 e1 e2 e3 e4 e5 e6 e7 e8; have x0 := (blk_cell HE.out 0).trans rfl; have x1 := (blk_cell HE.out 1).trans rfl; have x2 := (blk_cell HE.out 2).trans rfl; have x3 := (blk_cell HE.out 3).trans rfl; have x4 := (blk_cell HE.out 4).trans rfl; have x5 := (blk_cell HE.out 5).trans rfl; have x6 := (blk_cell HE.out 6).trans rfl; have x7 := (blk_cell HE.out 7).trans rfl; have x8 := (blk_cell HE.out 8).trans rfl; have v0 := (blk_cell HV.out 0).trans rfl; have hv2 := blk_drew HV.out; have he2 := blk_drew HE.out; have hb2 := below_drew1 HBB.out; clear HE HV HBB x0 x1 x2 x3 x4 x5 x6 x7 x8 v0; have HE := Aside0.mk he2; have HV := Aside0.mk hv2; have HBB := Aside0.mk hb2; clear he2 hv2 hb2
          refine start_ (n := 24) (S := (fun w' => w'.cell? ⟨wr.heap.size, 0, none⟩ = some (.string s) ∧ w'.cell? ⟨wr.heap.size, 1, none⟩ = some (.int .i64 ek) ∧ w'.cell? ⟨wr.heap.size, 2, none⟩ = some (.string et) ∧ w'.cell? ⟨wr.heap.size, 3, none⟩ = some (.string em) ∧ w'.cell? ⟨wr.heap.size, 4, none⟩ = some (.int .i64 en) ∧ w'.cell? ⟨wr.heap.size, 5, none⟩ = some (.int .u64 eb) ∧ w'.cell? ⟨wr.heap.size, 6, none⟩ = some (.int .u64 eh) ∧ w'.cell? ⟨wr.heap.size, 7, none⟩ = some (.slice A7 eB.length c7) ∧ w'.cell? ⟨wr.heap.size, 8, none⟩ = some (.slice A8 eK.length c8) ∧ w'.cell? ⟨w.heap.size, 0, none⟩ = some (.int .i64 k))) (ds := []) #[ff,ff,ff,ff,ff,ff,ff,ff,ff,ff,ff,ff,ff,ff,ff,ff,ff,ff,ff,ff,ff,ff,ff,ff] (by kernel_rfl) rfl rfl ⟨(blk_cell HE.out 0).trans rfl, (blk_cell HE.out 1).trans rfl, (blk_cell HE.out 2).trans rfl, (blk_cell HE.out 3).trans rfl, (blk_cell HE.out 4).trans rfl, (blk_cell HE.out 5).trans rfl, (blk_cell HE.out 6).trans rfl, (blk_cell HE.out 7).trans rfl, (blk_cell HE.out 8).trans rfl, (blk_cell HV.out 0).trans rfl⟩ (fun hHeld => ?_)
          refine with_tabW dr_tab22 dr_bits22 (fun HT_ HW_ => ?_)
          generalize World.drew (wr.alloc _) = wb at HE HV HBB hHeld ⊢
          refine HW.pz (i := 0) (N := some 114) #[tt,ff,ff,ff,ff,ff,ff,ff,ff,ff,ff,ff,ff,ff,ff,ff,ff,ff,ff,ff,ff,ff,ff,ff] ?_ (hc := any_of HT_.out (by kernel_rfl))
          refine take_ (i := 1) (N := some 115) (v := ?_) (a' := ?_) #[tt,tt,ff,ff,ff,ff,ff,ff,ff,ff,ff,ff,ff,ff,ff,ff,ff,ff,ff,ff,ff,ff,ff,ff] rfl rfl (take_ofW HT_.out HW_.out (by kernel_rfl)) (fun _ _ _ h => h) (Or.inl ⟨by rfl, ?_⟩) hHeld ?_ ?_
          rotate_left
          · rintro w' ⟨s0, s1, s2, s3, s4, s5, s6, s7, s8, s9⟩
            go_simp
            with_reducible rfl
          rotate_left
          · exact HW.pt
          refine one_ (i := 2) (N := some 116) #[tt,tt,tt,ff,ff,ff,ff,ff,ff,ff,ff,ff,ff,ff,ff,ff,ff,ff,ff,ff,ff,ff,ff,ff] rfl rfl (one_of HT_.out (by kernel_rfl)) (by decide) (fun K_ hK => ?_)
          refine goes_ Tryz.func15 (by kernel_rfl) rfl #[.string s] (by rfl) rfl rfl HW.mt ?_
          with_reducible refine (spec_DocPlain.calls (s.size + 1) s true _ HP.out).mono ?_
          rintro e w5 ⟨rfl, hD⟩
          have hD2 := hD.below; clear hD
          refine ⟨_, rfl, ?_⟩
          have he2 := blk_below HE.out hD2; have hv2 := blk_below HV.out hD2; have hb2 := below_step HBB.out hD2; clear HE HV HBB hD2; have HE := Aside0.mk he2; have HV := Aside0.mk hv2; have HBB := Aside0.mk hb2; clear he2 hv2 hb2
          refine hK.out _ _ ⟨(blk_cell HE.out 0).trans rfl, (blk_cell HE.out 1).trans rfl, (blk_cell HE.out 2).trans rfl, (blk_cell HE.out 3).trans rfl, (blk_cell HE.out 4).trans rfl, (blk_cell HE.out 5).trans rfl, (blk_cell HE.out 6).trans rfl, (blk_cell HE.out 7).trans rfl, (blk_cell HE.out 8).trans rfl, (blk_cell HV.out 0).trans rfl⟩ (fun hHeld => ?_)
          clear hK K_
          refine HW.nz (N := (some 116)) ?_
          refine HW.pz (i := 3) (N := some 117) #[tt,tt,tt,tt,ff,ff,ff,ff,ff,ff,ff,ff,ff,ff,ff,ff,ff,ff,ff,ff,ff,ff,ff,ff] ?_ (hc := any_of HT_.out (by kernel_rfl))
          refine HW.pz (i := 4) (N := some 118) #[tt,tt,tt,tt,tt,ff,ff,ff,ff,ff,ff,ff,ff,ff,ff,ff,ff,ff,ff,ff,ff,ff,ff,ff] ?_ (hc := any_of HT_.out (by kernel_rfl))
          refine HW.pz (i := 5) (N := some 119) #[tt,tt,tt,tt,tt,tt,ff,ff,ff,ff,ff,ff,ff,ff,ff,ff,ff,ff,ff,ff,ff,ff,ff,ff] ?_ (hc := any_of HT_.out (by kernel_rfl))
          refine take_ (i := 6) (N := some 120) (v := ?_) (a' := ?_) #[tt,tt,tt,tt,tt,tt,tt,ff,ff,ff,ff,ff,ff,ff,ff,ff,ff,ff,ff,ff,ff,ff,ff,ff] rfl rfl (take_ofW HT_.out HW_.out (by kernel_rfl)) (fun _ _ _ h => h) (Or.inl ⟨by rfl, ?_⟩) hHeld ?_ ?_
          rotate_left
          · rintro w' ⟨s0, s1, s2, s3, s4, s5, s6, s7, s8, s9⟩
            go_simp
            with_reducible rfl
          rotate_left
          · exact HW.pt
          refine HW.pz (i := 7) (N := some 121) #[tt,tt,tt,tt,tt,tt,tt,tt,ff,ff,ff,ff,ff,ff,ff,ff,ff,ff,ff,ff,ff,ff,ff,ff] ?_ (hc := any_of HT_.out (by kernel_rfl))
          refine HW.pz (i := 8) (N := some 122) #[tt,tt,tt,tt,tt,tt,tt,tt,tt,ff,ff,ff,ff,ff,ff,ff,ff,ff,ff,ff,ff,ff,ff,ff] ?_ (hc := any_of HT_.out (by kernel_rfl))
          refine pure_ (i := 9) (N := some 123) (v := undef) (a' := ?_) #[tt,tt,tt,tt,tt,tt,tt,tt,tt,tt,ff,ff,ff,ff,ff,ff,ff,ff,ff,ff,ff,ff,ff,ff] rfl rfl (any_of HT_.out (by kernel_rfl)) (fun _ _ _ h => h) (Or.inr ⟨by rfl, rfl⟩) ?_ ?_
          rotate_left
          · exact HW.pt
          refine pure_ (i := 11) (N := some 125) (v := undef) (a' := ?_) #[tt,tt,tt,tt,tt,tt,tt,tt,tt,tt,ff,tt,ff,ff,ff,ff,ff,ff,ff,ff,ff,ff,ff,ff] rfl rfl (any_of HT_.out (by kernel_rfl)) (fun _ _ _ h => h) (Or.inr ⟨by rfl, rfl⟩) ?_ ?_
          rotate_left
          · exact HW.pt
          refine pure_ (i := 10) (N := some 124) (v := undef) (a' := ?_) #[tt,tt,tt,tt,tt,tt,tt,tt,tt,tt,tt,tt,ff,ff,ff,ff,ff,ff,ff,ff,ff,ff,ff,ff] rfl rfl (any_of HT_.out (by kernel_rfl)) (fun _ _ _ h => h) (Or.inr ⟨by rfl, rfl⟩) ?_ ?_
          rotate_left
          · exact HW.pt
          refine pure_ (i := 12) (N := some 126) (v := undef) (a' := ?_) #[tt,tt,tt,tt,tt,tt,tt,tt,tt,tt,tt,tt,tt,ff,ff,ff,ff,ff,ff,ff,ff,ff,ff,ff] rfl rfl (any_of HT_.out (by kernel_rfl)) (fun _ _ _ h => h) (Or.inr ⟨by rfl, rfl⟩) ?_ ?_
          rotate_left
          · exact HW.pt
          refine pure_ (i := 13) (N := some 127) (v := undef) (a' := ?_) #[tt,tt,tt,tt,tt,tt,tt,tt,tt,tt,tt,tt,tt,tt,ff,ff,ff,ff,ff,ff,ff,ff,ff,ff] rfl rfl (any_of HT_.out (by kernel_rfl)) (fun _ _ _ h => h) (Or.inr ⟨by rfl, rfl⟩) ?_ ?_
          rotate_left
          · exact HW.pt
          refine HW.pz (i := 14) (N := some 128) #[tt,tt,tt,tt,tt,tt,tt,tt,tt,tt,tt,tt,tt,tt,tt,ff,ff,ff,ff,ff,ff,ff,ff,ff] ?_ (hc := any_of HT_.out (by kernel_rfl))
          refine HW.pz (i := 15) (N := some 129) #[tt,tt,tt,tt,tt,tt,tt,tt,tt,tt,tt,tt,tt,tt,tt,tt,ff,ff,ff,ff,ff,ff,ff,ff] ?_ (hc := any_of HT_.out (by kernel_rfl))
          refine HW.pz (i := 16) (N := some 130) #[tt,tt,tt,tt,tt,tt,tt,tt,tt,tt,tt,tt,tt,tt,tt,tt,tt,ff,ff,ff,ff,ff,ff,ff] ?_ (hc := any_of HT_.out (by kernel_rfl))
          refine HW.pz (i := 17) (N := some 131) #[tt,tt,tt,tt,tt,tt,tt,tt,tt,tt,tt,tt,tt,tt,tt,tt,tt,tt,ff,ff,ff,ff,ff,ff] ?_ (hc := any_of HT_.out (by kernel_rfl))
          refine HW.pz (i := 19) (N := some 133) #[tt,tt,tt,tt,tt,tt,tt,tt,tt,tt,tt,tt,tt,tt,tt,tt,tt,tt,ff,tt,ff,ff,ff,ff] ?_ (hc := any_of HT_.out (by kernel_rfl))
          refine HW.pz (i := 20) (N := some 134) #[tt,tt,tt,tt,tt,tt,tt,tt,tt,tt,tt,tt,tt,tt,tt,tt,tt,tt,ff,tt,tt,ff,ff,ff] ?_ (hc := any_of HT_.out (by kernel_rfl))
          refine take_ (i := 18) (N := some 132) (v := ?_) (a' := ?_) #[tt,tt,tt,tt,tt,tt,tt,tt,tt,tt,tt,tt,tt,tt,tt,tt,tt,tt,tt,tt,tt,ff,ff,ff] rfl rfl (take_ofW HT_.out HW_.out (by kernel_rfl)) (fun _ _ _ h => h) (Or.inl ⟨by rfl, ?_⟩) hHeld ?_ ?_
          rotate_left
          · rintro w' ⟨s0, s1, s2, s3, s4, s5, s6, s7, s8, s9⟩
            go_simp
            with_reducible rfl
          rotate_left
          · exact HW.pt
          refine one_ (i := 21) (N := some 135) #[tt,tt,tt,tt,tt,tt,tt,tt,tt,tt,tt,tt,tt,tt,tt,tt,tt,tt,tt,tt,tt,tt,ff,ff] rfl rfl (one_of HT_.out (by kernel_rfl)) (by decide) (fun K_ hK => ?_)
          refine goes_ Tryz.func123 (by kernel_rfl) rfl #[.agg #[.int .i64 ek, .string et, .string em, .int .i64 en, .int .u64 eb, .int .u64 eh, .slice A7 eB.length c7, .slice A8 eK.length c8], .int .i64 (d : Int)] (by rfl) rfl rfl HW.mt ?_
          refine (ih _ _ _ _ _ _ _ _ _ _ _ _ true _ (Kd.C_below g7.out HBB.out) l7 (Kd.C_below g8.out HBB.out) l8 HQ.out).mono ?_
          rintro e w7 ⟨rfl, hD2⟩
          refine ⟨_, rfl, ?_⟩
          have he2 := blk_below HE.out hD2; have hv2 := blk_below HV.out hD2; have hb2 := below_step HBB.out hD2; clear HE HV HBB hD2; have HE := Aside0.mk he2; have HV := Aside0.mk hv2; have HBB := Aside0.mk hb2; clear he2 hv2 hb2
          refine hK.out _ _ ⟨(blk_cell HE.out 0).trans rfl, (blk_cell HE.out 1).trans rfl, (blk_cell HE.out 2).trans rfl, (blk_cell HE.out 3).trans rfl, (blk_cell HE.out 4).trans rfl, (blk_cell HE.out 5).trans rfl, (blk_cell HE.out 6).trans rfl, (blk_cell HE.out 7).trans rfl, (blk_cell HE.out 8).trans rfl, (blk_cell HV.out 0).trans rfl⟩ (fun hHeld => ?_)
          clear hK K_
          refine HW.nz (N := (some 135)) ?_
          refine HW.pz (i := 22) (N := some 136) #[tt,tt,tt,tt,tt,tt,tt,tt,tt,tt,tt,tt,tt,tt,tt,tt,tt,tt,tt,tt,tt,tt,tt,ff] ?_ (hc := any_of HT_.out (by kernel_rfl))
          refine HW.pz (i := 23) (N := some 137) #[tt,tt,tt,tt,tt,tt,tt,tt,tt,tt,tt,tt,tt,tt,tt,tt,tt,tt,tt,tt,tt,tt,tt,tt] ?_ (hc := any_of HT_.out (by kernel_rfl))
          refine done_ (done_of HT_.out (by kernel_rfl)) ?_
          go_wp2
          go_roundw
          case rel => exact ⟨j + 1, by go_num, by omega, ⟨by have := HREST.out; simpa using this⟩, HV, HBB⟩
          case measure => simp [Go.RowKit.intOf]; omega
      rw [if_pos harr] at ho; obtain ⟨dg, hdg, ho⟩ := Option.bind_eq_some_iff.1 ho; have HDG := Aside0.mk hdg; clear HO hdg
      by_cases hs : s.toList = dg.toList
      rotate_left
      · have hsb : (s.toList == dg.toList) = false := by simpa using hs
        obtain rfl : ok = false := by have := Option.some.inj ho; rw [← this]; simpa using hs
        obtain rfl : false = r := Option.some.inj HRJ.out; clear HRJ ho
        go_wp2
        have hnew := blk_new wr (.cells #[.string s, .int .i64 ek, .string et, .string em, .int .i64 en, .int .u64 eb, .int .u64 eh, .slice A7 eB.length c7, .slice A8 eK.length c8] 73); have hv2 := blk_alloc HV.out (.cells #[.string s, .int .i64 ek, .string et, .string em, .int .i64 en, .int .u64 eb, .int .u64 eh, .slice A7 eB.length c7, .slice A8 eK.length c8] 73); have hb2 := below_alloc HBB.out (.cells #[.string s, .int .i64 ek, .string et, .string em, .int .i64 en, .int .u64 eb, .int .u64 eh, .slice A7 eB.length c7, .slice A8 eK.length c8] 73); have HE := Aside0.mk hnew; clear HV HBB v0 v7; have HV := Aside0.mk hv2; have HBB := Aside0.mk hb2; clear hnew hv2 hb2 e0 e1 e2 e3 e4 e5 e6 e7 e8; have x0 := (blk_cell HE.out 0).trans rfl; have x1 := (blk_cell HE.out 1).trans rfl; have x2 := (blk_cell HE.out 2).trans rfl; have x3 := (blk_cell HE.out 3).trans rfl; have x4 := (blk_cell HE.out 4).trans rfl; have x5 := (blk_cell HE.out 5).trans rfl; have x6 := (blk_cell HE.out 6).trans rfl; have x7 := (blk_cell HE.out 7).trans rfl; have x8 := (blk_cell HE.out 8).trans rfl; have v0 := (blk_cell HV.out 0).trans rfl; have hv2 := blk_drew HV.out; have he2 := blk_drew HE.out; have hb2 := below_drew1 HBB.out; clear HE HV HBB x0 x1 x2 x3 x4 x5 x6 x7 x8 v0; have HE := Aside0.mk he2; have HV := Aside0.mk hv2; have HBB := Aside0.mk hb2; clear he2 hv2 hb2
        refine start_ (n := 24) (S := (fun w' => w'.cell? ⟨wr.heap.size, 0, none⟩ = some (.string s) ∧ w'.cell? ⟨wr.heap.size, 1, none⟩ = some (.int .i64 ek) ∧ w'.cell? ⟨wr.heap.size, 2, none⟩ = some (.string et) ∧ w'.cell? ⟨wr.heap.size, 3, none⟩ = some (.string em) ∧ w'.cell? ⟨wr.heap.size, 4, none⟩ = some (.int .i64 en) ∧ w'.cell? ⟨wr.heap.size, 5, none⟩ = some (.int .u64 eb) ∧ w'.cell? ⟨wr.heap.size, 6, none⟩ = some (.int .u64 eh) ∧ w'.cell? ⟨wr.heap.size, 7, none⟩ = some (.slice A7 eB.length c7) ∧ w'.cell? ⟨wr.heap.size, 8, none⟩ = some (.slice A8 eK.length c8) ∧ w'.cell? ⟨w.heap.size, 0, none⟩ = some (.int .i64 k))) (ds := []) #[ff,ff,ff,ff,ff,ff,ff,ff,ff,ff,ff,ff,ff,ff,ff,ff,ff,ff,ff,ff,ff,ff,ff,ff] (by kernel_rfl) rfl rfl ⟨(blk_cell HE.out 0).trans rfl, (blk_cell HE.out 1).trans rfl, (blk_cell HE.out 2).trans rfl, (blk_cell HE.out 3).trans rfl, (blk_cell HE.out 4).trans rfl, (blk_cell HE.out 5).trans rfl, (blk_cell HE.out 6).trans rfl, (blk_cell HE.out 7).trans rfl, (blk_cell HE.out 8).trans rfl, (blk_cell HV.out 0).trans rfl⟩ (fun hHeld => ?_)
        refine with_tabW dr_tab22 dr_bits22 (fun HT_ HW_ => ?_)
        generalize World.drew (wr.alloc _) = wb at HE HV HBB hHeld ⊢
        refine HW.pz (i := 0) (N := some 114) #[tt,ff,ff,ff,ff,ff,ff,ff,ff,ff,ff,ff,ff,ff,ff,ff,ff,ff,ff,ff,ff,ff,ff,ff] ?_ (hc := any_of HT_.out (by kernel_rfl))
        refine take_ (i := 1) (N := some 115) (v := ?_) (a' := ?_) #[tt,tt,ff,ff,ff,ff,ff,ff,ff,ff,ff,ff,ff,ff,ff,ff,ff,ff,ff,ff,ff,ff,ff,ff] rfl rfl (take_ofW HT_.out HW_.out (by kernel_rfl)) (fun _ _ _ h => h) (Or.inl ⟨by rfl, ?_⟩) hHeld ?_ ?_
        rotate_left
        · rintro w' ⟨s0, s1, s2, s3, s4, s5, s6, s7, s8, s9⟩
          go_simp
          with_reducible rfl
        rotate_left
        · exact HW.pt
        refine one_ (i := 2) (N := some 116) #[tt,tt,tt,ff,ff,ff,ff,ff,ff,ff,ff,ff,ff,ff,ff,ff,ff,ff,ff,ff,ff,ff,ff,ff] rfl rfl (one_of HT_.out (by kernel_rfl)) (by decide) (fun K_ hK => ?_)
        refine goes_ Tryz.func15 (by kernel_rfl) rfl #[.string s] (by rfl) rfl rfl HW.mt ?_
        with_reducible refine (spec_DocPlain.calls (s.size + 1) s true _ HP.out).mono ?_
        rintro e w5 ⟨rfl, hD⟩
        have hD2 := hD.below; clear hD
        refine ⟨_, rfl, ?_⟩
        have he2 := blk_below HE.out hD2; have hv2 := blk_below HV.out hD2; have hb2 := below_step HBB.out hD2; clear HE HV HBB hD2; have HE := Aside0.mk he2; have HV := Aside0.mk hv2; have HBB := Aside0.mk hb2; clear he2 hv2 hb2
        refine hK.out _ _ ⟨(blk_cell HE.out 0).trans rfl, (blk_cell HE.out 1).trans rfl, (blk_cell HE.out 2).trans rfl, (blk_cell HE.out 3).trans rfl, (blk_cell HE.out 4).trans rfl, (blk_cell HE.out 5).trans rfl, (blk_cell HE.out 6).trans rfl, (blk_cell HE.out 7).trans rfl, (blk_cell HE.out 8).trans rfl, (blk_cell HV.out 0).trans rfl⟩ (fun hHeld => ?_)
        clear hK K_
        refine HW.nz (N := (some 116)) ?_
        refine HW.pz (i := 3) (N := some 117) #[tt,tt,tt,tt,ff,ff,ff,ff,ff,ff,ff,ff,ff,ff,ff,ff,ff,ff,ff,ff,ff,ff,ff,ff] ?_ (hc := any_of HT_.out (by kernel_rfl))
        refine HW.pz (i := 4) (N := some 118) #[tt,tt,tt,tt,tt,ff,ff,ff,ff,ff,ff,ff,ff,ff,ff,ff,ff,ff,ff,ff,ff,ff,ff,ff] ?_ (hc := any_of HT_.out (by kernel_rfl))
        refine HW.pz (i := 5) (N := some 119) #[tt,tt,tt,tt,tt,tt,ff,ff,ff,ff,ff,ff,ff,ff,ff,ff,ff,ff,ff,ff,ff,ff,ff,ff] ?_ (hc := any_of HT_.out (by kernel_rfl))
        refine take_ (i := 6) (N := some 120) (v := ?_) (a' := ?_) #[tt,tt,tt,tt,tt,tt,tt,ff,ff,ff,ff,ff,ff,ff,ff,ff,ff,ff,ff,ff,ff,ff,ff,ff] rfl rfl (take_ofW HT_.out HW_.out (by kernel_rfl)) (fun _ _ _ h => h) (Or.inl ⟨by rfl, ?_⟩) hHeld ?_ ?_
        rotate_left
        · rintro w' ⟨s0, s1, s2, s3, s4, s5, s6, s7, s8, s9⟩
          go_simp
          with_reducible rfl
        rotate_left
        · exact HW.pt
        refine HW.pz (i := 7) (N := some 121) #[tt,tt,tt,tt,tt,tt,tt,tt,ff,ff,ff,ff,ff,ff,ff,ff,ff,ff,ff,ff,ff,ff,ff,ff] ?_ (hc := any_of HT_.out (by kernel_rfl))
        refine HW.pz (i := 8) (N := some 122) #[tt,tt,tt,tt,tt,tt,tt,tt,tt,ff,ff,ff,ff,ff,ff,ff,ff,ff,ff,ff,ff,ff,ff,ff] ?_ (hc := any_of HT_.out (by kernel_rfl))
        refine HW.pz (i := 9) (N := some 123) #[tt,tt,tt,tt,tt,tt,tt,tt,tt,tt,ff,ff,ff,ff,ff,ff,ff,ff,ff,ff,ff,ff,ff,ff] ?_ (hc := any_of HT_.out (by kernel_rfl))
        refine HW.pz (i := 11) (N := some 125) #[tt,tt,tt,tt,tt,tt,tt,tt,tt,tt,ff,tt,ff,ff,ff,ff,ff,ff,ff,ff,ff,ff,ff,ff] ?_ (hc := any_of HT_.out (by kernel_rfl))
        refine take_ (i := 10) (N := some 124) (v := ?_) (a' := ?_) #[tt,tt,tt,tt,tt,tt,tt,tt,tt,tt,tt,tt,ff,ff,ff,ff,ff,ff,ff,ff,ff,ff,ff,ff] rfl rfl (take_ofW HT_.out HW_.out (by kernel_rfl)) (fun _ _ _ h => h) (Or.inl ⟨by rfl, ?_⟩) hHeld ?_ ?_
        rotate_left
        · rintro w' ⟨s0, s1, s2, s3, s4, s5, s6, s7, s8, s9⟩
          go_simp
          with_reducible rfl
        rotate_left
        · exact HW.pt
        refine one_ (i := 12) (N := some 126) #[tt,tt,tt,tt,tt,tt,tt,tt,tt,tt,tt,tt,tt,ff,ff,ff,ff,ff,ff,ff,ff,ff,ff,ff] rfl rfl (one_of HT_.out (by kernel_rfl)) (by decide) (fun K_ hK => ?_)
        refine goes_ Tryz.func162 (by kernel_rfl) rfl #[.int .i64 (j : Int)] (by rfl) rfl rfl HW.mt ?_
        refine (spec_DocDigits.calls 64 (j : Int) dg _ HDG.out).mono ?_
        rintro e w6 ⟨rfl, hD2⟩
        refine ⟨_, rfl, ?_⟩
        have he2 := blk_below HE.out hD2; have hv2 := blk_below HV.out hD2; have hb2 := below_step HBB.out hD2; clear HE HV HBB hD2; have HE := Aside0.mk he2; have HV := Aside0.mk hv2; have HBB := Aside0.mk hb2; clear he2 hv2 hb2
        refine hK.out _ _ ⟨(blk_cell HE.out 0).trans rfl, (blk_cell HE.out 1).trans rfl, (blk_cell HE.out 2).trans rfl, (blk_cell HE.out 3).trans rfl, (blk_cell HE.out 4).trans rfl, (blk_cell HE.out 5).trans rfl, (blk_cell HE.out 6).trans rfl, (blk_cell HE.out 7).trans rfl, (blk_cell HE.out 8).trans rfl, (blk_cell HV.out 0).trans rfl⟩ (fun hHeld => ?_)
        clear hK K_
        refine HW.nz (N := (some 126)) ?_
        refine HW.pz (i := 13) (N := some 127) #[tt,tt,tt,tt,tt,tt,tt,tt,tt,tt,tt,tt,tt,tt,ff,ff,ff,ff,ff,ff,ff,ff,ff,ff] ?_ (hc := any_of HT_.out (by kernel_rfl))
        refine HW.pz (i := 14) (N := some 128) #[tt,tt,tt,tt,tt,tt,tt,tt,tt,tt,tt,tt,tt,tt,tt,ff,ff,ff,ff,ff,ff,ff,ff,ff] ?_ (hc := any_of HT_.out (by kernel_rfl))
        refine HW.pz (i := 15) (N := some 129) #[tt,tt,tt,tt,tt,tt,tt,tt,tt,tt,tt,tt,tt,tt,tt,tt,ff,ff,ff,ff,ff,ff,ff,ff] ?_ (hc := any_of HT_.out (by kernel_rfl))
        refine HW.pz (i := 16) (N := some 130) #[tt,tt,tt,tt,tt,tt,tt,tt,tt,tt,tt,tt,tt,tt,tt,tt,tt,ff,ff,ff,ff,ff,ff,ff] ?_ (hc := any_of HT_.out (by kernel_rfl))
        refine pure_ (i := 17) (N := some 131) (v := undef) (a' := ?_) #[tt,tt,tt,tt,tt,tt,tt,tt,tt,tt,tt,tt,tt,tt,tt,tt,tt,tt,ff,ff,ff,ff,ff,ff] rfl rfl (any_of HT_.out (by kernel_rfl)) (fun _ _ _ h => h) (Or.inr ⟨by rfl, rfl⟩) ?_ ?_
        rotate_left
        · exact HW.pt
        refine pure_ (i := 19) (N := some 133) (v := undef) (a' := ?_) #[tt,tt,tt,tt,tt,tt,tt,tt,tt,tt,tt,tt,tt,tt,tt,tt,tt,tt,ff,tt,ff,ff,ff,ff] rfl rfl (any_of HT_.out (by kernel_rfl)) (fun _ _ _ h => h) (Or.inr ⟨by rfl, rfl⟩) ?_ ?_
        rotate_left
        · exact HW.pt
        refine pure_ (i := 20) (N := some 134) (v := undef) (a' := ?_) #[tt,tt,tt,tt,tt,tt,tt,tt,tt,tt,tt,tt,tt,tt,tt,tt,tt,tt,ff,tt,tt,ff,ff,ff] rfl rfl (any_of HT_.out (by kernel_rfl)) (fun _ _ _ h => h) (Or.inr ⟨by rfl, rfl⟩) ?_ ?_
        rotate_left
        · exact HW.pt
        refine pure_ (i := 18) (N := some 132) (v := undef) (a' := ?_) #[tt,tt,tt,tt,tt,tt,tt,tt,tt,tt,tt,tt,tt,tt,tt,tt,tt,tt,tt,tt,tt,ff,ff,ff] rfl rfl (any_of HT_.out (by kernel_rfl)) (fun _ _ _ h => h) (Or.inr ⟨by rfl, rfl⟩) ?_ ?_
        rotate_left
        · exact HW.pt
        refine pure_ (i := 21) (N := some 135) (v := undef) (a' := ?_) #[tt,tt,tt,tt,tt,tt,tt,tt,tt,tt,tt,tt,tt,tt,tt,tt,tt,tt,tt,tt,tt,tt,ff,ff] rfl rfl (any_of HT_.out (by kernel_rfl)) (fun _ _ _ h => h) (Or.inr ⟨by rfl, rfl⟩) ?_ ?_
        rotate_left
        · exact HW.pt
        refine pure_ (i := 22) (N := some 136) (v := undef) (a' := ?_) #[tt,tt,tt,tt,tt,tt,tt,tt,tt,tt,tt,tt,tt,tt,tt,tt,tt,tt,tt,tt,tt,tt,tt,ff] rfl rfl (any_of HT_.out (by kernel_rfl)) (fun _ _ _ h => h) (Or.inr ⟨by rfl, rfl⟩) ?_ ?_
        rotate_left
        · exact HW.pt
        refine HW.pz (i := 23) (N := some 137) #[tt,tt,tt,tt,tt,tt,tt,tt,tt,tt,tt,tt,tt,tt,tt,tt,tt,tt,tt,tt,tt,tt,tt,tt] ?_ (hc := any_of HT_.out (by kernel_rfl))
        refine done_ (done_of HT_.out (by kernel_rfl)) ?_
        go_wp2
        go_ret
        exact ⟨rfl, HBB.out⟩
      obtain rfl : ok = true := by have := Option.some.inj ho; rw [← this]; simpa using hs
      clear ho; obtain ⟨q, hq, hrj2⟩ := Option.bind_eq_some_iff.1 HRJ.out; have HQ := Aside0.mk hq; have HRJ2 := Aside0.mk hrj2; clear hq hrj2 HRJ
      cases q with
      | false =>
        obtain rfl : false = r := Option.some.inj HRJ2.out; clear HRJ2
        go_wp2
        have hnew := blk_new wr (.cells #[.string s, .int .i64 ek, .string et, .string em, .int .i64 en, .int .u64 eb, .int .u64 eh, .slice A7 eB.length c7, .slice A8 eK.length c8] 73); have hv2 := blk_alloc HV.out (.cells #[.string s, .int .i64 ek, .string et, .string em, .int .i64 en, .int .u64 eb, .int .u64 eh, .slice A7 eB.length c7, .slice A8 eK.length c8] 73); have hb2 := below_alloc HBB.out (.cells #[.string s, .int .i64 ek, .string et, .string em, .int .i64 en, .int .u64 eb, .int .u64 eh, .slice A7 eB.length c7, .slice A8 eK.length c8] 73); have HE := Aside0.mk hnew; clear HV HBB v0 v7; have HV := Aside0.mk hv2; have HBB := Aside0.mk hb2; clear hnew hv2 hb2 e0 e1 e2 e3 e4 e5 e6 e7 e8; have x0 := (blk_cell HE.out 0).trans rfl; have x1 := (blk_cell HE.out 1).trans rfl; have x2 := (blk_cell HE.out 2).trans rfl; have x3 := (blk_cell HE.out 3).trans rfl; have x4 := (blk_cell HE.out 4).trans rfl; have x5 := (blk_cell HE.out 5).trans rfl; have x6 := (blk_cell HE.out 6).trans rfl; have x7 := (blk_cell HE.out 7).trans rfl; have x8 := (blk_cell HE.out 8).trans rfl; have v0 := (blk_cell HV.out 0).trans rfl; have hv2 := blk_drew HV.out; have he2 := blk_drew HE.out; have hb2 := below_drew1 HBB.out; clear HE HV HBB x0 x1 x2 x3 x4 x5 x6 x7 x8 v0; have HE := Aside0.mk he2; have HV := Aside0.mk hv2; have HBB := Aside0.mk hb2; clear he2 hv2 hb2
        refine start_ (n := 24) (S := (fun w' => w'.cell? ⟨wr.heap.size, 0, none⟩ = some (.string s) ∧ w'.cell? ⟨wr.heap.size, 1, none⟩ = some (.int .i64 ek) ∧ w'.cell? ⟨wr.heap.size, 2, none⟩ = some (.string et) ∧ w'.cell? ⟨wr.heap.size, 3, none⟩ = some (.string em) ∧ w'.cell? ⟨wr.heap.size, 4, none⟩ = some (.int .i64 en) ∧ w'.cell? ⟨wr.heap.size, 5, none⟩ = some (.int .u64 eb) ∧ w'.cell? ⟨wr.heap.size, 6, none⟩ = some (.int .u64 eh) ∧ w'.cell? ⟨wr.heap.size, 7, none⟩ = some (.slice A7 eB.length c7) ∧ w'.cell? ⟨wr.heap.size, 8, none⟩ = some (.slice A8 eK.length c8) ∧ w'.cell? ⟨w.heap.size, 0, none⟩ = some (.int .i64 k))) (ds := []) #[ff,ff,ff,ff,ff,ff,ff,ff,ff,ff,ff,ff,ff,ff,ff,ff,ff,ff,ff,ff,ff,ff,ff,ff] (by kernel_rfl) rfl rfl ⟨(blk_cell HE.out 0).trans rfl, (blk_cell HE.out 1).trans rfl, (blk_cell HE.out 2).trans rfl, (blk_cell HE.out 3).trans rfl, (blk_cell HE.out 4).trans rfl, (blk_cell HE.out 5).trans rfl, (blk_cell HE.out 6).trans rfl, (blk_cell HE.out 7).trans rfl, (blk_cell HE.out 8).trans rfl, (blk_cell HV.out 0).trans rfl⟩ (fun hHeld => ?_)
        refine with_tabW dr_tab22 dr_bits22 (fun HT_ HW_ => ?_)
        generalize World.drew (wr.alloc _) = wb at HE HV HBB hHeld ⊢
        refine HW.pz (i := 0) (N := some 114) #[tt,ff,ff,ff,ff,ff,ff,ff,ff,ff,ff,ff,ff,ff,ff,ff,ff,ff,ff,ff,ff,ff,ff,ff] ?_ (hc := any_of HT_.out (by kernel_rfl))
        refine take_ (i := 1) (N := some 115) (v := ?_) (a' := ?_) #[tt,tt,ff,ff,ff,ff,ff,ff,ff,ff,ff,ff,ff,ff,ff,ff,ff,ff,ff,ff,ff,ff,ff,ff] rfl rfl (take_ofW HT_.out HW_.out (by kernel_rfl)) (fun _ _ _ h => h) (Or.inl ⟨by rfl, ?_⟩) hHeld ?_ ?_
        rotate_left
        · rintro w' ⟨s0, s1, s2, s3, s4, s5, s6, s7, s8, s9⟩
          go_simp
          with_reducible rfl
        rotate_left
        · exact HW.pt
        refine one_ (i := 2) (N := some 116) #[tt,tt,tt,ff,ff,ff,ff,ff,ff,ff,ff,ff,ff,ff,ff,ff,ff,ff,ff,ff,ff,ff,ff,ff] rfl rfl (one_of HT_.out (by kernel_rfl)) (by decide) (fun K_ hK => ?_)
        refine goes_ Tryz.func15 (by kernel_rfl) rfl #[.string s] (by rfl) rfl rfl HW.mt ?_
        with_reducible refine (spec_DocPlain.calls (s.size + 1) s true _ HP.out).mono ?_
        rintro e w5 ⟨rfl, hD⟩
        have hD2 := hD.below; clear hD
        refine ⟨_, rfl, ?_⟩
        have he2 := blk_below HE.out hD2; have hv2 := blk_below HV.out hD2; have hb2 := below_step HBB.out hD2; clear HE HV HBB hD2; have HE := Aside0.mk he2; have HV := Aside0.mk hv2; have HBB := Aside0.mk hb2; clear he2 hv2 hb2
        refine hK.out _ _ ⟨(blk_cell HE.out 0).trans rfl, (blk_cell HE.out 1).trans rfl, (blk_cell HE.out 2).trans rfl, (blk_cell HE.out 3).trans rfl, (blk_cell HE.out 4).trans rfl, (blk_cell HE.out 5).trans rfl, (blk_cell HE.out 6).trans rfl, (blk_cell HE.out 7).trans rfl, (blk_cell HE.out 8).trans rfl, (blk_cell HV.out 0).trans rfl⟩ (fun hHeld => ?_)
        clear hK K_
        refine HW.nz (N := (some 116)) ?_
        refine HW.pz (i := 3) (N := some 117) #[tt,tt,tt,tt,ff,ff,ff,ff,ff,ff,ff,ff,ff,ff,ff,ff,ff,ff,ff,ff,ff,ff,ff,ff] ?_ (hc := any_of HT_.out (by kernel_rfl))
        refine HW.pz (i := 4) (N := some 118) #[tt,tt,tt,tt,tt,ff,ff,ff,ff,ff,ff,ff,ff,ff,ff,ff,ff,ff,ff,ff,ff,ff,ff,ff] ?_ (hc := any_of HT_.out (by kernel_rfl))
        refine HW.pz (i := 5) (N := some 119) #[tt,tt,tt,tt,tt,tt,ff,ff,ff,ff,ff,ff,ff,ff,ff,ff,ff,ff,ff,ff,ff,ff,ff,ff] ?_ (hc := any_of HT_.out (by kernel_rfl))
        refine take_ (i := 6) (N := some 120) (v := ?_) (a' := ?_) #[tt,tt,tt,tt,tt,tt,tt,ff,ff,ff,ff,ff,ff,ff,ff,ff,ff,ff,ff,ff,ff,ff,ff,ff] rfl rfl (take_ofW HT_.out HW_.out (by kernel_rfl)) (fun _ _ _ h => h) (Or.inl ⟨by rfl, ?_⟩) hHeld ?_ ?_
        rotate_left
        · rintro w' ⟨s0, s1, s2, s3, s4, s5, s6, s7, s8, s9⟩
          go_simp
          with_reducible rfl
        rotate_left
        · exact HW.pt
        refine HW.pz (i := 7) (N := some 121) #[tt,tt,tt,tt,tt,tt,tt,tt,ff,ff,ff,ff,ff,ff,ff,ff,ff,ff,ff,ff,ff,ff,ff,ff] ?_ (hc := any_of HT_.out (by kernel_rfl))
        refine HW.pz (i := 8) (N := some 122) #[tt,tt,tt,tt,tt,tt,tt,tt,tt,ff,ff,ff,ff,ff,ff,ff,ff,ff,ff,ff,ff,ff,ff,ff] ?_ (hc := any_of HT_.out (by kernel_rfl))
        refine HW.pz (i := 9) (N := some 123) #[tt,tt,tt,tt,tt,tt,tt,tt,tt,tt,ff,ff,ff,ff,ff,ff,ff,ff,ff,ff,ff,ff,ff,ff] ?_ (hc := any_of HT_.out (by kernel_rfl))
        refine HW.pz (i := 11) (N := some 125) #[tt,tt,tt,tt,tt,tt,tt,tt,tt,tt,ff,tt,ff,ff,ff,ff,ff,ff,ff,ff,ff,ff,ff,ff] ?_ (hc := any_of HT_.out (by kernel_rfl))
        refine take_ (i := 10) (N := some 124) (v := ?_) (a' := ?_) #[tt,tt,tt,tt,tt,tt,tt,tt,tt,tt,tt,tt,ff,ff,ff,ff,ff,ff,ff,ff,ff,ff,ff,ff] rfl rfl (take_ofW HT_.out HW_.out (by kernel_rfl)) (fun _ _ _ h => h) (Or.inl ⟨by rfl, ?_⟩) hHeld ?_ ?_
        rotate_left
        · rintro w' ⟨s0, s1, s2, s3, s4, s5, s6, s7, s8, s9⟩
          go_simp
          with_reducible rfl
        rotate_left
        · exact HW.pt
        refine one_ (i := 12) (N := some 126) #[tt,tt,tt,tt,tt,tt,tt,tt,tt,tt,tt,tt,tt,ff,ff,ff,ff,ff,ff,ff,ff,ff,ff,ff] rfl rfl (one_of HT_.out (by kernel_rfl)) (by decide) (fun K_ hK => ?_)
        refine goes_ Tryz.func162 (by kernel_rfl) rfl #[.int .i64 (j : Int)] (by rfl) rfl rfl HW.mt ?_
        refine (spec_DocDigits.calls 64 (j : Int) dg _ HDG.out).mono ?_
        rintro e w6 ⟨rfl, hD2⟩
        refine ⟨_, rfl, ?_⟩
        have he2 := blk_below HE.out hD2; have hv2 := blk_below HV.out hD2; have hb2 := below_step HBB.out hD2; clear HE HV HBB hD2; have HE := Aside0.mk he2; have HV := Aside0.mk hv2; have HBB := Aside0.mk hb2; clear he2 hv2 hb2
        refine hK.out _ _ ⟨(blk_cell HE.out 0).trans rfl, (blk_cell HE.out 1).trans rfl, (blk_cell HE.out 2).trans rfl, (blk_cell HE.out 3).trans rfl, (blk_cell HE.out 4).trans rfl, (blk_cell HE.out 5).trans rfl, (blk_cell HE.out 6).trans rfl, (blk_cell HE.out 7).trans rfl, (blk_cell HE.out 8).trans rfl, (blk_cell HV.out 0).trans rfl⟩ (fun hHeld => ?_)
        clear hK K_
        refine HW.nz (N := (some 126)) ?_
        refine HW.pz (i := 13) (N := some 127) #[tt,tt,tt,tt,tt,tt,tt,tt,tt,tt,tt,tt,tt,tt,ff,ff,ff,ff,ff,ff,ff,ff,ff,ff] ?_ (hc := any_of HT_.out (by kernel_rfl))
        refine HW.pz (i := 14) (N := some 128) #[tt,tt,tt,tt,tt,tt,tt,tt,tt,tt,tt,tt,tt,tt,tt,ff,ff,ff,ff,ff,ff,ff,ff,ff] ?_ (hc := any_of HT_.out (by kernel_rfl))
        refine HW.pz (i := 15) (N := some 129) #[tt,tt,tt,tt,tt,tt,tt,tt,tt,tt,tt,tt,tt,tt,tt,tt,ff,ff,ff,ff,ff,ff,ff,ff] ?_ (hc := any_of HT_.out (by kernel_rfl))
        refine HW.pz (i := 16) (N := some 130) #[tt,tt,tt,tt,tt,tt,tt,tt,tt,tt,tt,tt,tt,tt,tt,tt,tt,ff,ff,ff,ff,ff,ff,ff] ?_ (hc := any_of HT_.out (by kernel_rfl))
        refine HW.pz (i := 17) (N := some 131) #[tt,tt,tt,tt,tt,tt,tt,tt,tt,tt,tt,tt,tt,tt,tt,tt,tt,tt,ff,ff,ff,ff,ff,ff] ?_ (hc := any_of HT_.out (by kernel_rfl))
        refine HW.pz (i := 19) (N := some 133) #[tt,tt,tt,tt,tt,tt,tt,tt,tt,tt,tt,tt,tt,tt,tt,tt,tt,tt,ff,tt,ff,ff,ff,ff] ?_ (hc := any_of HT_.out (by kernel_rfl))
        refine HW.pz (i := 20) (N := some 134) #[tt,tt,tt,tt,tt,tt,tt,tt,tt,tt,tt,tt,tt,tt,tt,tt,tt,tt,ff,tt,tt,ff,ff,ff] ?_ (hc := any_of HT_.out (by kernel_rfl))
        refine take_ (i := 18) (N := some 132) (v := ?_) (a' := ?_) #[tt,tt,tt,tt,tt,tt,tt,tt,tt,tt,tt,tt,tt,tt,tt,tt,tt,tt,tt,tt,tt,ff,ff,ff] rfl rfl (take_ofW HT_.out HW_.out (by kernel_rfl)) (fun _ _ _ h => h) (Or.inl ⟨by rfl, ?_⟩) hHeld ?_ ?_
        rotate_left
        · rintro w' ⟨s0, s1, s2, s3, s4, s5, s6, s7, s8, s9⟩
          go_simp
          with_reducible rfl
        rotate_left
        · exact HW.pt
        refine one_ (i := 21) (N := some 135) #[tt,tt,tt,tt,tt,tt,tt,tt,tt,tt,tt,tt,tt,tt,tt,tt,tt,tt,tt,tt,tt,tt,ff,ff] rfl rfl (one_of HT_.out (by kernel_rfl)) (by decide) (fun K_ hK => ?_)
        refine goes_ Tryz.func123 (by kernel_rfl) rfl #[.agg #[.int .i64 ek, .string et, .string em, .int .i64 en, .int .u64 eb, .int .u64 eh, .slice A7 eB.length c7, .slice A8 eK.length c8], .int .i64 (d : Int)] (by rfl) rfl rfl HW.mt ?_
        refine (ih _ _ _ _ _ _ _ _ _ _ _ _ false _ (Kd.C_below g7.out HBB.out) l7 (Kd.C_below g8.out HBB.out) l8 HQ.out).mono ?_
        rintro e w7 ⟨rfl, hD2⟩
        refine ⟨_, rfl, ?_⟩
        have he2 := blk_below HE.out hD2; have hv2 := blk_below HV.out hD2; have hb2 := below_step HBB.out hD2; clear HE HV HBB hD2; have HE := Aside0.mk he2; have HV := Aside0.mk hv2; have HBB := Aside0.mk hb2; clear he2 hv2 hb2
        refine hK.out _ _ ⟨(blk_cell HE.out 0).trans rfl, (blk_cell HE.out 1).trans rfl, (blk_cell HE.out 2).trans rfl, (blk_cell HE.out 3).trans rfl, (blk_cell HE.out 4).trans rfl, (blk_cell HE.out 5).trans rfl, (blk_cell HE.out 6).trans rfl, (blk_cell HE.out 7).trans rfl, (blk_cell HE.out 8).trans rfl, (blk_cell HV.out 0).trans rfl⟩ (fun hHeld => ?_)
        clear hK K_
        refine HW.nz (N := (some 135)) ?_
        refine HW.pz (i := 22) (N := some 136) #[tt,tt,tt,tt,tt,tt,tt,tt,tt,tt,tt,tt,tt,tt,tt,tt,tt,tt,tt,tt,tt,tt,tt,ff] ?_ (hc := any_of HT_.out (by kernel_rfl))
        refine HW.pz (i := 23) (N := some 137) #[tt,tt,tt,tt,tt,tt,tt,tt,tt,tt,tt,tt,tt,tt,tt,tt,tt,tt,tt,tt,tt,tt,tt,tt] ?_ (hc := any_of HT_.out (by kernel_rfl))
        refine done_ (done_of HT_.out (by kernel_rfl)) ?_
        go_wp2
        go_ret
        exact ⟨rfl, HBB.out⟩
      | true =>
        have hrest : docRL (fun v => docR d v.f0 v.f1 v.f2 v.f3 v.f4 v.f5 v.f6 v.f7) (k == 4) (K.drop (j + 1)) ((j : Int) + 1) = some r := HRJ2.out; have HREST := Aside0.mk hrest; clear HRJ2 hrest
        go_wp2
        have hnew := blk_new wr (.cells #[.string s, .int .i64 ek, .string et, .string em, .int .i64 en, .int .u64 eb, .int .u64 eh, .slice A7 eB.length c7, .slice A8 eK.length c8] 73); have hv2 := blk_alloc HV.out (.cells #[.string s, .int .i64 ek, .string et, .string em, .int .i64 en, .int .u64 eb, .int .u64 eh, .slice A7 eB.length c7, .slice A8 eK.length c8] 73); have hb2 := below_alloc HBB.out (.cells #[.string s, .int .i64 ek, .string et, .string em, .int .i64 en, .int .u64 eb, .int .u64 eh, .slice A7 eB.length c7, .slice A8 eK.length c8] 73); have HE := Aside0.mk hnew; clear HV HBB v0 v7; have HV := Aside0.mk hv2; have HBB := Aside0.mk hb2; clear hnew hv2 hb2 e0 e1 e2 e3 e4 e5 e6 e7 e8; have x0 := (blk_cell HE.out 0).trans rfl; have x1 := (blk_cell HE.out 1).trans rfl; have x2 := (blk_cell HE.out 2).trans rfl; have x3 := (blk_cell HE.out 3).trans rfl; have x4 := (blk_cell HE.out 4).trans rfl; have x5 := (blk_cell HE.out 5).trans rfl; have x6 := (blk_cell HE.out 6).trans rfl; have x7 := (blk_cell HE.out 7).trans rfl; have x8 := (blk_cell HE.out 8).trans rfl; have v0 := (blk_cell HV.out 0).trans rfl; have hv2 := blk_drew HV.out; have he2 := blk_drew HE.out; have hb2 := below_drew1 HBB.out; clear HE HV HBB x0 x1 x2 x3 x4 x5 x6 x7 x8 v0; have HE := Aside0.mk he2; have HV := Aside0.mk hv2; have HBB := Aside0.mk hb2; clear he2 hv2 hb2
        refine start_ (n := 24) (S := (fun w' => w'.cell? ⟨wr.heap.size, 0, none⟩ = some (.string s) ∧ w'.cell? ⟨wr.heap.size, 1, none⟩ = some (.int .i64 ek) ∧ w'.cell? ⟨wr.heap.size, 2, none⟩ = some (.string et) ∧ w'.cell? ⟨wr.heap.size, 3, none⟩ = some (.string em) ∧ w'.cell? ⟨wr.heap.size, 4, none⟩ = some (.int .i64 en) ∧ w'.cell? ⟨wr.heap.size, 5, none⟩ = some (.int .u64 eb) ∧ w'.cell? ⟨wr.heap.size, 6, none⟩ = some (.int .u64 eh) ∧ w'.cell? ⟨wr.heap.size, 7, none⟩ = some (.slice A7 eB.length c7) ∧ w'.cell? ⟨wr.heap.size, 8, none⟩ = some (.slice A8 eK.length c8) ∧ w'.cell? ⟨w.heap.size, 0, none⟩ = some (.int .i64 k))) (ds := []) #[ff,ff,ff,ff,ff,ff,ff,ff,ff,ff,ff,ff,ff,ff,ff,ff,ff,ff,ff,ff,ff,ff,ff,ff] (by kernel_rfl) rfl rfl ⟨(blk_cell HE.out 0).trans rfl, (blk_cell HE.out 1).trans rfl, (blk_cell HE.out 2).trans rfl, (blk_cell HE.out 3).trans rfl, (blk_cell HE.out 4).trans rfl, (blk_cell HE.out 5).trans rfl, (blk_cell HE.out 6).trans rfl, (blk_cell HE.out 7).trans rfl, (blk_cell HE.out 8).trans rfl, (blk_cell HV.out 0).trans rfl⟩ (fun hHeld => ?_)
        refine with_tabW dr_tab22 dr_bits22 (fun HT_ HW_ => ?_)
        generalize World.drew (wr.alloc _) = wb at HE HV HBB hHeld ⊢
        refine HW.pz (i := 0) (N := some 114) #[tt,ff,ff,ff,ff,ff,ff,ff,ff,ff,ff,ff,ff,ff,ff,ff,ff,ff,ff,ff,ff,ff,ff,ff] ?_ (hc := any_of HT_.out (by kernel_rfl))
        refine take_ (i := 1) (N := some 115) (v := ?_) (a' := ?_) #[tt,tt,ff,ff,ff,ff,ff,ff,ff,ff,ff,ff,ff,ff,ff,ff,ff,ff,ff,ff,ff,ff,ff,ff] rfl rfl (take_ofW HT_.out HW_.out (by kernel_rfl)) (fun _ _ _ h => h) (Or.inl ⟨by rfl, ?_⟩) hHeld ?_ ?_
        rotate_left
        · rintro w' ⟨s0, s1, s2, s3, s4, s5, s6, s7, s8, s9⟩
          go_simp
          with_reducible rfl
        rotate_left
        · exact HW.pt
        refine one_ (i := 2) (N := some 116) #[tt,tt,tt,ff,ff,ff,ff,ff,ff,ff,ff,ff,ff,ff,ff,ff,ff,ff,ff,ff,ff,ff,ff,ff] rfl rfl (one_of HT_.out (by kernel_rfl)) (by decide) (fun K_ hK => ?_)
        refine goes_ Tryz.func15 (by kernel_rfl) rfl #[.string s] (by rfl) rfl rfl HW.mt ?_
        with_reducible refine (spec_DocPlain.calls (s.size + 1) s true _ HP.out).mono ?_
        rintro e w5 ⟨rfl, hD⟩
        have hD2 := hD.below; clear hD
        refine ⟨_, rfl, ?_⟩
        have he2 := blk_below HE.out hD2; have hv2 := blk_below HV.out hD2; have hb2 := below_step HBB.out hD2; clear HE HV HBB hD2; have HE := Aside0.mk he2; have HV := Aside0.mk hv2; have HBB := Aside0.mk hb2; clear he2 hv2 hb2
        refine hK.out _ _ ⟨(blk_cell HE.out 0).trans rfl, (blk_cell HE.out 1).trans rfl, (blk_cell HE.out 2).trans rfl, (blk_cell HE.out 3).trans rfl, (blk_cell HE.out 4).trans rfl, (blk_cell HE.out 5).trans rfl, (blk_cell HE.out 6).trans rfl, (blk_cell HE.out 7).trans rfl, (blk_cell HE.out 8).trans rfl, (blk_cell HV.out 0).trans rfl⟩ (fun hHeld => ?_)
        clear hK K_
        refine HW.nz (N := (some 116)) ?_
        refine HW.pz (i := 3) (N := some 117) #[tt,tt,tt,tt,ff,ff,ff,ff,ff,ff,ff,ff,ff,ff,ff,ff,ff,ff,ff,ff,ff,ff,ff,ff] ?_ (hc := any_of HT_.out (by kernel_rfl))
        refine HW.pz (i := 4) (N := some 118) #[tt,tt,tt,tt,tt,ff,ff,ff,ff,ff,ff,ff,ff,ff,ff,ff,ff,ff,ff,ff,ff,ff,ff,ff] ?_ (hc := any_of HT_.out (by kernel_rfl))
        refine HW.pz (i := 5) (N := some 119) #[tt,tt,tt,tt,tt,tt,ff,ff,ff,ff,ff,ff,ff,ff,ff,ff,ff,ff,ff,ff,ff,ff,ff,ff] ?_ (hc := any_of HT_.out (by kernel_rfl))
        refine take_ (i := 6) (N := some 120) (v := ?_) (a' := ?_) #[tt,tt,tt,tt,tt,tt,tt,ff,ff,ff,ff,ff,ff,ff,ff,ff,ff,ff,ff,ff,ff,ff,ff,ff] rfl rfl (take_ofW HT_.out HW_.out (by kernel_rfl)) (fun _ _ _ h => h) (Or.inl ⟨by rfl, ?_⟩) hHeld ?_ ?_
        rotate_left
        · rintro w' ⟨s0, s1, s2, s3, s4, s5, s6, s7, s8, s9⟩
          go_simp
          with_reducible rfl
        rotate_left
        · exact HW.pt
        refine HW.pz (i := 7) (N := some 121) #[tt,tt,tt,tt,tt,tt,tt,tt,ff,ff,ff,ff,ff,ff,ff,ff,ff,ff,ff,ff,ff,ff,ff,ff] ?_ (hc := any_of HT_.out (by kernel_rfl))
        refine HW.pz (i := 8) (N := some 122) #[tt,tt,tt,tt,tt,tt,tt,tt,tt,ff,ff,ff,ff,ff,ff,ff,ff,ff,ff,ff,ff,ff,ff,ff] ?_ (hc := any_of HT_.out (by kernel_rfl))
        refine HW.pz (i := 9) (N := some 123) #[tt,tt,tt,tt,tt,tt,tt,tt,tt,tt,ff,ff,ff,ff,ff,ff,ff,ff,ff,ff,ff,ff,ff,ff] ?_ (hc := any_of HT_.out (by kernel_rfl))
        refine HW.pz (i := 11) (N := some 125) #[tt,tt,tt,tt,tt,tt,tt,tt,tt,tt,ff,tt,ff,ff,ff,ff,ff,ff,ff,ff,ff,ff,ff,ff] ?_ (hc := any_of HT_.out (by kernel_rfl))
        refine take_ (i := 10) (N := some 124) (v := ?_) (a' := ?_) #[tt,tt,tt,tt,tt,tt,tt,tt,tt,tt,tt,tt,ff,ff,ff,ff,ff,ff,ff,ff,ff,ff,ff,ff] rfl rfl (take_ofW HT_.out HW_.out (by kernel_rfl)) (fun _ _ _ h => h) (Or.inl ⟨by rfl, ?_⟩) hHeld ?_ ?_
        rotate_left
        · rintro w' ⟨s0, s1, s2, s3, s4, s5, s6, s7, s8, s9⟩
          go_simp
          with_reducible rfl
        rotate_left
        · exact HW.pt
        refine one_ (i := 12) (N := some 126) #[tt,tt,tt,tt,tt,tt,tt,tt,tt,tt,tt,tt,tt,ff,ff,ff,ff,ff,ff,ff,ff,ff,ff,ff] rfl rfl (one_of HT_.out (by kernel_rfl)) (by decide) (fun K_ hK => ?_)
        refine goes_ Tryz.func162 (by kernel_rfl) rfl #[.int .i64 (j : Int)] (by rfl) rfl rfl HW.mt ?_
        refine (spec_DocDigits.calls 64 (j : Int) dg _ HDG.out).mono ?_
        rintro e w6 ⟨rfl, hD2⟩
        refine ⟨_, rfl, ?_⟩
        have he2 := blk_below HE.out hD2; have hv2 := blk_below HV.out hD2; have hb2 := below_step HBB.out hD2; clear HE HV HBB hD2; have HE := Aside0.mk he2; have HV := Aside0.mk hv2; have HBB := Aside0.mk hb2; clear he2 hv2 hb2
        refine hK.out _ _ ⟨(blk_cell HE.out 0).trans rfl, (blk_cell HE.out 1).trans rfl, (blk_cell HE.out 2).trans rfl, (blk_cell HE.out 3).trans rfl, (blk_cell HE.out 4).trans rfl, (blk_cell HE.out 5).trans rfl, (blk_cell HE.out 6).trans rfl, (blk_cell HE.out 7).trans rfl, (blk_cell HE.out 8).trans rfl, (blk_cell HV.out 0).trans rfl⟩ (fun hHeld => ?_)
        clear hK K_
        refine HW.nz (N := (some 126)) ?_
        refine HW.pz (i := 13) (N := some 127) #[tt,tt,tt,tt,tt,tt,tt,tt,tt,tt,tt,tt,tt,tt,ff,ff,ff,ff,ff,ff,ff,ff,ff,ff] ?_ (hc := any_of HT_.out (by kernel_rfl))
        refine HW.pz (i := 14) (N := some 128) #[tt,tt,tt,tt,tt,tt,tt,tt,tt,tt,tt,tt,tt,tt,tt,ff,ff,ff,ff,ff,ff,ff,ff,ff] ?_ (hc := any_of HT_.out (by kernel_rfl))
        refine HW.pz (i := 15) (N := some 129) #[tt,tt,tt,tt,tt,tt,tt,tt,tt,tt,tt,tt,tt,tt,tt,tt,ff,ff,ff,ff,ff,ff,ff,ff] ?_ (hc := any_of HT_.out (by kernel_rfl))
        refine HW.pz (i := 16) (N := some 130) #[tt,tt,tt,tt,tt,tt,tt,tt,tt,tt,tt,tt,tt,tt,tt,tt,tt,ff,ff,ff,ff,ff,ff,ff] ?_ (hc := any_of HT_.out (by kernel_rfl))
        refine HW.pz (i := 17) (N := some 131) #[tt,tt,tt,tt,tt,tt,tt,tt,tt,tt,tt,tt,tt,tt,tt,tt,tt,tt,ff,ff,ff,ff,ff,ff] ?_ (hc := any_of HT_.out (by kernel_rfl))
        refine HW.pz (i := 19) (N := some 133) #[tt,tt,tt,tt,tt,tt,tt,tt,tt,tt,tt,tt,tt,tt,tt,tt,tt,tt,ff,tt,ff,ff,ff,ff] ?_ (hc := any_of HT_.out (by kernel_rfl))
        refine HW.pz (i := 20) (N := some 134) #[tt,tt,tt,tt,tt,tt,tt,tt,tt,tt,tt,tt,tt,tt,tt,tt,tt,tt,ff,tt,tt,ff,ff,ff] ?_ (hc := any_of HT_.out (by kernel_rfl))
        refine take_ (i := 18) (N := some 132) (v := ?_) (a' := ?_) #[tt,tt,tt,tt,tt,tt,tt,tt,tt,tt,tt,tt,tt,tt,tt,tt,tt,tt,tt,tt,tt,ff,ff,ff] rfl rfl (take_ofW HT_.out HW_.out (by kernel_rfl)) (fun _ _ _ h => h) (Or.inl ⟨by rfl, ?_⟩) hHeld ?_ ?_
        rotate_left
        · rintro w' ⟨s0, s1, s2, s3, s4, s5, s6, s7, s8, s9⟩
          go_simp
          with_reducible rfl
        rotate_left
        · exact HW.pt
        refine one_ (i := 21) (N := some 135) #[tt,tt,tt,tt,tt,tt,tt,tt,tt,tt,tt,tt,tt,tt,tt,tt,tt,tt,tt,tt,tt,tt,ff,ff] rfl rfl (one_of HT_.out (by kernel_rfl)) (by decide) (fun K_ hK => ?_)
        refine goes_ Tryz.func123 (by kernel_rfl) rfl #[.agg #[.int .i64 ek, .string et, .string em, .int .i64 en, .int .u64 eb, .int .u64 eh, .slice A7 eB.length c7, .slice A8 eK.length c8], .int .i64 (d : Int)] (by rfl) rfl rfl HW.mt ?_
        refine (ih _ _ _ _ _ _ _ _ _ _ _ _ true _ (Kd.C_below g7.out HBB.out) l7 (Kd.C_below g8.out HBB.out) l8 HQ.out).mono ?_
        rintro e w7 ⟨rfl, hD2⟩
        refine ⟨_, rfl, ?_⟩
        have he2 := blk_below HE.out hD2; have hv2 := blk_below HV.out hD2; have hb2 := below_step HBB.out hD2; clear HE HV HBB hD2; have HE := Aside0.mk he2; have HV := Aside0.mk hv2; have HBB := Aside0.mk hb2; clear he2 hv2 hb2
        refine hK.out _ _ ⟨(blk_cell HE.out 0).trans rfl, (blk_cell HE.out 1).trans rfl, (blk_cell HE.out 2).trans rfl, (blk_cell HE.out 3).trans rfl, (blk_cell HE.out 4).trans rfl, (blk_cell HE.out 5).trans rfl, (blk_cell HE.out 6).trans rfl, (blk_cell HE.out 7).trans rfl, (blk_cell HE.out 8).trans rfl, (blk_cell HV.out 0).trans rfl⟩ (fun hHeld => ?_)
        clear hK K_
        refine HW.nz (N := (some 135)) ?_
        refine HW.pz (i := 22) (N := some 136) #[tt,tt,tt,tt,tt,tt,tt,tt,tt,tt,tt,tt,tt,tt,tt,tt,tt,tt,tt,tt,tt,tt,tt,ff] ?_ (hc := any_of HT_.out (by kernel_rfl))
        refine HW.pz (i := 23) (N := some 137) #[tt,tt,tt,tt,tt,tt,tt,tt,tt,tt,tt,tt,tt,tt,tt,tt,tt,tt,tt,tt,tt,tt,tt,tt] ?_ (hc := any_of HT_.out (by kernel_rfl))
        refine done_ (done_of HT_.out (by kernel_rfl)) ?_
        go_wp2
        go_roundw
        case rel => exact ⟨j + 1, by go_num, by omega, ⟨by have := HREST.out; simpa using this⟩, HV, HBB⟩
        case measure => simp [Go.RowKit.intOf]; omega
theorem known_some (k : Int) : ∃ b, spec_DocKnown.f k = some b := by
  unfold spec_DocKnown.f
  (repeat' split) <;> exact ⟨_, rfl⟩
theorem docR_calls : ∀ (d : Nat), d ≤ 1000 → ∀ (k n b h : Int) (t m : ByteArray) (AB AK : Option Addr) (B : List Int) (cB : Nat) (K : List S73) (cK : Nat) (r : Bool) (w : World), Kd.C (Kd.int .u8) w AB B.length B → B.length ≤ cB → Kd.C k73 w AK K.length K → K.length ≤ cK → docR d k t m n b h B K = some r →
    Calls Tryz.prog 123 #[.agg #[.int .i64 k, .string t, .string m, .int .i64 n, .int .u64 b, .int .u64 h, .slice AB B.length cB, .slice AK K.length cK], .int .i64 (d : Int)] w fun e w' => e = .returned (.bool r) ∧ Below w.heap.size w w' := by
  intro d
  induction d with
  | zero =>
    intro _ k n b h t m AB AK B cB K cK r w _ _ _ _ hr
    obtain rfl : false = r := Option.some.inj hr; obtain ⟨kn, hkn⟩ := known_some k
    cases kn with
    | false => exact dr_unknown k n b h t m AB AK B cB K cK w _ hkn
    | true => exact dr_zero k n b h t m AB AK B cB K cK w hkn
  | succ d ih =>
    intro hd k n b h t m AB AK B cB K cK r w hB hlB hK hlK hr
    have e : ((d + 1 : Nat) : Int) = (d : Int) + 1 := by omega
    rw [e]
    have hdd : (((d : Int) + 1) == 0) = false := by simp; omega
    rw [docR] at hr; obtain ⟨kn, hkn, hr⟩ := Option.bind_eq_some_iff.1 hr
    cases kn with
    | false =>
      obtain rfl : false = r := Option.some.inj hr
      exact dr_unknown k n b h t m AB AK B cB K cK w _ hkn
    | true =>
      rw [if_neg (by decide)] at hr
      cases hbf : bareFull k t m n b h B K with
      | false =>
        rw [hbf, if_pos rfl] at hr; obtain rfl : false = r := Option.some.inj hr
        exact dr_bare k n b h t m AB AK B cB K cK w _ hdd hkn hbf
      | true =>
        rw [hbf, if_neg (by decide)] at hr
        by_cases k5 : k = 5
        · rw [if_pos k5] at hr
          obtain rfl := Option.some.inj hr
          exact dr_5 k n b h t m AB AK B cB K cK w _ hdd hkn hbf k5
        rw [if_neg k5] at hr
        by_cases k7 : k = 7
        · rw [if_pos k7] at hr
          obtain rfl := Option.some.inj hr
          exact dr_7 k n b h t m AB AK B cB K cK w _ hdd hkn hbf k7
        rw [if_neg k7] at hr
        by_cases k12 : k = 12
        · rw [if_pos k12] at hr
          obtain rfl := Option.some.inj hr
          exact dr_12 k n b h t m AB AK B cB K cK w _ hdd hkn hbf k12
        rw [if_neg k12] at hr
        by_cases k8 : k = 8
        · rw [if_pos k8] at hr
          obtain rfl := Option.some.inj hr
          exact dr_8 k n b h t m AB AK B cB K cK w _ hdd hkn hbf k8
        rw [if_neg k8] at hr
        by_cases k16 : k = 16
        · rw [if_pos k16] at hr
          obtain rfl := Option.some.inj hr
          exact dr_16 k n b h t m AB AK B cB K cK w _ hdd hkn hbf k16
        rw [if_neg k16] at hr
        by_cases k11 : k = 11
        · rw [if_pos k11] at hr
          exact dr_11 k n b h t m AB AK B cB K cK w _ hdd r hkn hbf k11 hr
        rw [if_neg k11] at hr
        exact dr_loop k n b h t m AB AK B cB K cK w d (by omega) r hkn hbf (by simpa using k5) (by simpa using k7) (by simpa using k12) (by simpa using k8) (by simpa using k16) (by simpa using k11) hK (ih (by omega)) hr
def spec_docRight.f (a0_0 : Int) (a0_1 : ByteArray) (a0_2 : ByteArray) (a0_3 : Int) (a0_4 : Int) (a0_5 : Int) (l0_6 : List Int) (l0_7 : List S73) (a1 : Int) : Option Bool := if 0 ≤ a1 ∧ a1 ≤ 1000 then docR a1.toNat a0_0 a0_1 a0_2 a0_3 a0_4 a0_5 l0_6 l0_7 else none
theorem spec_docRight.calls (a0_0 : Int) (a0_1 : ByteArray) (a0_2 : ByteArray) (a0_3 : Int) (a0_4 : Int) (a0_5 : Int) (A0_6 : Option Addr) (c0_6 : Nat) (l0_6 : List Int) (A0_7 : Option Addr) (c0_7 : Nat) (l0_7 : List S73) (a1 : Int) (r : Bool) (w : World) (hr0_6 : Kd.C (Kd.int .u8) w A0_6 l0_6.length l0_6) (hc0_6 : l0_6.length ≤ c0_6) (hr0_7 : Kd.C k73 w A0_7 l0_7.length l0_7) (hc0_7 : l0_7.length ≤ c0_7) (h : spec_docRight.f a0_0 a0_1 a0_2 a0_3 a0_4 a0_5 l0_6 l0_7 a1 = some r) :
    Calls Tryz.prog 123 #[.agg #[.int .i64 a0_0, .string a0_1, .string a0_2, .int .i64 a0_3, .int .u64 a0_4, .int .u64 a0_5, .slice A0_6 l0_6.length c0_6, .slice A0_7 l0_7.length c0_7], .int .i64 a1] w fun e w' => e = .returned (.bool r) ∧ Below w.heap.size w w' := by
  unfold spec_docRight.f at h
  by_cases ha : 0 ≤ a1 ∧ a1 ≤ 1000
  · rw [if_pos ha] at h
    obtain ⟨d, rfl⟩ : ∃ d : Nat, a1 = (d : Int) := ⟨a1.toNat, by omega⟩
    rw [Int.toNat_natCast] at h
    exact docR_calls d (by omega) _ _ _ _ _ _ _ _ _ _ _ _ _ _ hr0_6 hc0_6 hr0_7 hc0_7 h
  rw [if_neg ha] at h; cases h
end Go.Proofs.YtbfhpjkahobgnaaGreatDoor.PLo
