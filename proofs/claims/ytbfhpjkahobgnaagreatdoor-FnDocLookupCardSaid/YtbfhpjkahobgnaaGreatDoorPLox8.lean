import Derived.Test.YtbfhpjkahobgnaaGreatDoorPLox0
namespace Go.Proofs.YtbfhpjkahobgnaaGreatDoor.PLo
open Go.Proofs.YtbfhpjkahobgnaaGreatDoor.HW (tt ff)
open Go.RowKit Go.Proofs.YtbfhpjkahobgnaaGreatDoorW.PrintWords Go.Proofs.YtbfhpjkahobgnaaGreatDoorW.PrintLast Go.Proofs.YtbfhpjkahobgnaaGreatDoorW.PrintMore
attribute [local go_sem] max2_int min2_int max_two min_two max_three min_three max_four min_four
set_option linter.unusedVariables false
set_option maxHeartbeats 8000000
set_option maxRecDepth 100000
set_option linter.unusedSimpArgs false
def bareText (k : Int) : Bool := k == 2 || k == 11 || k == 12 || k == 13 || k == 14 || k == 15
def bareMore (k : Int) : Bool := k == 11
def bareN (k : Int) : Bool := k == 5 || k == 8 || k == 9 || k == 16 || k == 18
def bareBits (k : Int) : Bool := k == 1 || k == 17 || k == 19
def bareHigh (k : Int) : Bool := k == 19
def bareBy (k : Int) : Bool := k == 5 || k == 7 || k == 12
def bareKids (k : Int) : Bool := k == 3 || k == 4 || k == 15
def bareV (k n bits high : Int) (text more : ByteArray) (vB vK : Value) : Value := .agg #[.int .i64 k, .string (if bareText k = true then ⟨#[]⟩ else text), .string (if bareMore k = true then ⟨#[]⟩ else more), .int .i64 (if bareN k = true then 0 else n), .int .u64 (if bareBits k = true then 0 else bits), .int .u64 (if bareHigh k = true then 0 else high), if bareBy k = true then .slice none 0 0 else vB, if bareKids k = true then .slice none 0 0 else vK]
theorem docBare_1 (n bits high : Int) (text more : ByteArray) (AB AK : Option Addr) (nB cB nK cK : Nat) (w : World) : Calls Tryz.prog 161 #[.agg #[.int .i64 1, .string text, .string more, .int .i64 n, .int .u64 bits, .int .u64 high, .slice AB nB cB, .slice AK nK cK]] w fun e w' => e = .returned (bareV 1 n bits high text more (.slice AB nB cB) (.slice AK nK cK)) ∧ Below w.heap.size w w' := by
  have hu := Tryz.underlying46
  go_enter Tryz.func161, Tryz.ntmps161
  go_wp2
  exact bodyPost_ret (v := .agg #[.int .i64 1, .string text, .string more, .int .i64 n, .int .u64 0, .int .u64 high, .slice AB nB cB, .slice AK nK cK]) (by simp [results, Tryz.results161, go_sem]) rfl ⟨by rfl, by first | exact (((Below.refl _ _).alloc (Nat.le_refl _) _).alloc (by simp) _) | (repeat (first | exact (((Below.refl _ _).alloc (Nat.le_refl _) _).alloc (by simp) _) | (refine Below.setCell ?_ (by simp) _)))⟩
theorem docBare_2 (n bits high : Int) (text more : ByteArray) (AB AK : Option Addr) (nB cB nK cK : Nat) (w : World) : Calls Tryz.prog 161 #[.agg #[.int .i64 2, .string text, .string more, .int .i64 n, .int .u64 bits, .int .u64 high, .slice AB nB cB, .slice AK nK cK]] w fun e w' => e = .returned (bareV 2 n bits high text more (.slice AB nB cB) (.slice AK nK cK)) ∧ Below w.heap.size w w' := by
  have hu := Tryz.underlying46
  go_enter Tryz.func161, Tryz.ntmps161
  go_wp2
  exact bodyPost_ret (v := .agg #[.int .i64 2, .string ⟨#[]⟩, .string more, .int .i64 n, .int .u64 bits, .int .u64 high, .slice AB nB cB, .slice AK nK cK]) (by simp [results, Tryz.results161, go_sem]) rfl ⟨by rfl, by first | exact (((Below.refl _ _).alloc (Nat.le_refl _) _).alloc (by simp) _) | (repeat (first | exact (((Below.refl _ _).alloc (Nat.le_refl _) _).alloc (by simp) _) | (refine Below.setCell ?_ (by simp) _)))⟩
theorem docBare_3 (n bits high : Int) (text more : ByteArray) (AB AK : Option Addr) (nB cB nK cK : Nat) (w : World) : Calls Tryz.prog 161 #[.agg #[.int .i64 3, .string text, .string more, .int .i64 n, .int .u64 bits, .int .u64 high, .slice AB nB cB, .slice AK nK cK]] w fun e w' => e = .returned (bareV 3 n bits high text more (.slice AB nB cB) (.slice AK nK cK)) ∧ Below w.heap.size w w' := by
  have hu := Tryz.underlying46
  go_enter Tryz.func161, Tryz.ntmps161
  go_wp2
  exact bodyPost_ret (v := .agg #[.int .i64 3, .string text, .string more, .int .i64 n, .int .u64 bits, .int .u64 high, .slice AB nB cB, .slice none 0 0]) (by simp [results, Tryz.results161, go_sem]) rfl ⟨by rfl, by first | exact (((Below.refl _ _).alloc (Nat.le_refl _) _).alloc (by simp) _) | (repeat (first | exact (((Below.refl _ _).alloc (Nat.le_refl _) _).alloc (by simp) _) | (refine Below.setCell ?_ (by simp) _)))⟩
theorem docBare_4 (n bits high : Int) (text more : ByteArray) (AB AK : Option Addr) (nB cB nK cK : Nat) (w : World) : Calls Tryz.prog 161 #[.agg #[.int .i64 4, .string text, .string more, .int .i64 n, .int .u64 bits, .int .u64 high, .slice AB nB cB, .slice AK nK cK]] w fun e w' => e = .returned (bareV 4 n bits high text more (.slice AB nB cB) (.slice AK nK cK)) ∧ Below w.heap.size w w' := by
  have hu := Tryz.underlying46
  go_enter Tryz.func161, Tryz.ntmps161
  go_wp2
  exact bodyPost_ret (v := .agg #[.int .i64 4, .string text, .string more, .int .i64 n, .int .u64 bits, .int .u64 high, .slice AB nB cB, .slice none 0 0]) (by simp [results, Tryz.results161, go_sem]) rfl ⟨by rfl, by first | exact (((Below.refl _ _).alloc (Nat.le_refl _) _).alloc (by simp) _) | (repeat (first | exact (((Below.refl _ _).alloc (Nat.le_refl _) _).alloc (by simp) _) | (refine Below.setCell ?_ (by simp) _)))⟩
theorem docBare_5 (n bits high : Int) (text more : ByteArray) (AB AK : Option Addr) (nB cB nK cK : Nat) (w : World) : Calls Tryz.prog 161 #[.agg #[.int .i64 5, .string text, .string more, .int .i64 n, .int .u64 bits, .int .u64 high, .slice AB nB cB, .slice AK nK cK]] w fun e w' => e = .returned (bareV 5 n bits high text more (.slice AB nB cB) (.slice AK nK cK)) ∧ Below w.heap.size w w' := by
  have hu := Tryz.underlying46
  go_enter Tryz.func161, Tryz.ntmps161
  go_wp2
  exact bodyPost_ret (v := .agg #[.int .i64 5, .string text, .string more, .int .i64 0, .int .u64 bits, .int .u64 high, .slice none 0 0, .slice AK nK cK]) (by simp [results, Tryz.results161, go_sem]) rfl ⟨by rfl, by first | exact (((Below.refl _ _).alloc (Nat.le_refl _) _).alloc (by simp) _) | (repeat (first | exact (((Below.refl _ _).alloc (Nat.le_refl _) _).alloc (by simp) _) | (refine Below.setCell ?_ (by simp) _)))⟩
theorem docBare_7 (n bits high : Int) (text more : ByteArray) (AB AK : Option Addr) (nB cB nK cK : Nat) (w : World) : Calls Tryz.prog 161 #[.agg #[.int .i64 7, .string text, .string more, .int .i64 n, .int .u64 bits, .int .u64 high, .slice AB nB cB, .slice AK nK cK]] w fun e w' => e = .returned (bareV 7 n bits high text more (.slice AB nB cB) (.slice AK nK cK)) ∧ Below w.heap.size w w' := by
  have hu := Tryz.underlying46
  go_enter Tryz.func161, Tryz.ntmps161
  go_wp2
  exact bodyPost_ret (v := .agg #[.int .i64 7, .string text, .string more, .int .i64 n, .int .u64 bits, .int .u64 high, .slice none 0 0, .slice AK nK cK]) (by simp [results, Tryz.results161, go_sem]) rfl ⟨by rfl, by first | exact (((Below.refl _ _).alloc (Nat.le_refl _) _).alloc (by simp) _) | (repeat (first | exact (((Below.refl _ _).alloc (Nat.le_refl _) _).alloc (by simp) _) | (refine Below.setCell ?_ (by simp) _)))⟩
theorem docBare_8 (n bits high : Int) (text more : ByteArray) (AB AK : Option Addr) (nB cB nK cK : Nat) (w : World) : Calls Tryz.prog 161 #[.agg #[.int .i64 8, .string text, .string more, .int .i64 n, .int .u64 bits, .int .u64 high, .slice AB nB cB, .slice AK nK cK]] w fun e w' => e = .returned (bareV 8 n bits high text more (.slice AB nB cB) (.slice AK nK cK)) ∧ Below w.heap.size w w' := by
  have hu := Tryz.underlying46
  go_enter Tryz.func161, Tryz.ntmps161
  go_wp2
  exact bodyPost_ret (v := .agg #[.int .i64 8, .string text, .string more, .int .i64 0, .int .u64 bits, .int .u64 high, .slice AB nB cB, .slice AK nK cK]) (by simp [results, Tryz.results161, go_sem]) rfl ⟨by rfl, by first | exact (((Below.refl _ _).alloc (Nat.le_refl _) _).alloc (by simp) _) | (repeat (first | exact (((Below.refl _ _).alloc (Nat.le_refl _) _).alloc (by simp) _) | (refine Below.setCell ?_ (by simp) _)))⟩
theorem docBare_9 (n bits high : Int) (text more : ByteArray) (AB AK : Option Addr) (nB cB nK cK : Nat) (w : World) : Calls Tryz.prog 161 #[.agg #[.int .i64 9, .string text, .string more, .int .i64 n, .int .u64 bits, .int .u64 high, .slice AB nB cB, .slice AK nK cK]] w fun e w' => e = .returned (bareV 9 n bits high text more (.slice AB nB cB) (.slice AK nK cK)) ∧ Below w.heap.size w w' := by
  have hu := Tryz.underlying46
  go_enter Tryz.func161, Tryz.ntmps161
  go_wp2
  exact bodyPost_ret (v := .agg #[.int .i64 9, .string text, .string more, .int .i64 0, .int .u64 bits, .int .u64 high, .slice AB nB cB, .slice AK nK cK]) (by simp [results, Tryz.results161, go_sem]) rfl ⟨by rfl, by first | exact (((Below.refl _ _).alloc (Nat.le_refl _) _).alloc (by simp) _) | (repeat (first | exact (((Below.refl _ _).alloc (Nat.le_refl _) _).alloc (by simp) _) | (refine Below.setCell ?_ (by simp) _)))⟩
theorem docBare_11 (n bits high : Int) (text more : ByteArray) (AB AK : Option Addr) (nB cB nK cK : Nat) (w : World) : Calls Tryz.prog 161 #[.agg #[.int .i64 11, .string text, .string more, .int .i64 n, .int .u64 bits, .int .u64 high, .slice AB nB cB, .slice AK nK cK]] w fun e w' => e = .returned (bareV 11 n bits high text more (.slice AB nB cB) (.slice AK nK cK)) ∧ Below w.heap.size w w' := by
  have hu := Tryz.underlying46
  go_enter Tryz.func161, Tryz.ntmps161
  go_wp2
  exact bodyPost_ret (v := .agg #[.int .i64 11, .string ⟨#[]⟩, .string ⟨#[]⟩, .int .i64 n, .int .u64 bits, .int .u64 high, .slice AB nB cB, .slice AK nK cK]) (by simp [results, Tryz.results161, go_sem]) rfl ⟨by rfl, by first | exact (((Below.refl _ _).alloc (Nat.le_refl _) _).alloc (by simp) _) | (repeat (first | exact (((Below.refl _ _).alloc (Nat.le_refl _) _).alloc (by simp) _) | (refine Below.setCell ?_ (by simp) _)))⟩
theorem docBare_12 (n bits high : Int) (text more : ByteArray) (AB AK : Option Addr) (nB cB nK cK : Nat) (w : World) : Calls Tryz.prog 161 #[.agg #[.int .i64 12, .string text, .string more, .int .i64 n, .int .u64 bits, .int .u64 high, .slice AB nB cB, .slice AK nK cK]] w fun e w' => e = .returned (bareV 12 n bits high text more (.slice AB nB cB) (.slice AK nK cK)) ∧ Below w.heap.size w w' := by
  have hu := Tryz.underlying46
  go_enter Tryz.func161, Tryz.ntmps161
  go_wp2
  exact bodyPost_ret (v := .agg #[.int .i64 12, .string ⟨#[]⟩, .string more, .int .i64 n, .int .u64 bits, .int .u64 high, .slice none 0 0, .slice AK nK cK]) (by simp [results, Tryz.results161, go_sem]) rfl ⟨by rfl, by first | exact (((Below.refl _ _).alloc (Nat.le_refl _) _).alloc (by simp) _) | (repeat (first | exact (((Below.refl _ _).alloc (Nat.le_refl _) _).alloc (by simp) _) | (refine Below.setCell ?_ (by simp) _)))⟩
theorem docBare_13 (n bits high : Int) (text more : ByteArray) (AB AK : Option Addr) (nB cB nK cK : Nat) (w : World) : Calls Tryz.prog 161 #[.agg #[.int .i64 13, .string text, .string more, .int .i64 n, .int .u64 bits, .int .u64 high, .slice AB nB cB, .slice AK nK cK]] w fun e w' => e = .returned (bareV 13 n bits high text more (.slice AB nB cB) (.slice AK nK cK)) ∧ Below w.heap.size w w' := by
  have hu := Tryz.underlying46
  go_enter Tryz.func161, Tryz.ntmps161
  go_wp2
  exact bodyPost_ret (v := .agg #[.int .i64 13, .string ⟨#[]⟩, .string more, .int .i64 n, .int .u64 bits, .int .u64 high, .slice AB nB cB, .slice AK nK cK]) (by simp [results, Tryz.results161, go_sem]) rfl ⟨by rfl, by first | exact (((Below.refl _ _).alloc (Nat.le_refl _) _).alloc (by simp) _) | (repeat (first | exact (((Below.refl _ _).alloc (Nat.le_refl _) _).alloc (by simp) _) | (refine Below.setCell ?_ (by simp) _)))⟩
theorem docBare_14 (n bits high : Int) (text more : ByteArray) (AB AK : Option Addr) (nB cB nK cK : Nat) (w : World) : Calls Tryz.prog 161 #[.agg #[.int .i64 14, .string text, .string more, .int .i64 n, .int .u64 bits, .int .u64 high, .slice AB nB cB, .slice AK nK cK]] w fun e w' => e = .returned (bareV 14 n bits high text more (.slice AB nB cB) (.slice AK nK cK)) ∧ Below w.heap.size w w' := by
  have hu := Tryz.underlying46
  go_enter Tryz.func161, Tryz.ntmps161
  go_wp2
  exact bodyPost_ret (v := .agg #[.int .i64 14, .string ⟨#[]⟩, .string more, .int .i64 n, .int .u64 bits, .int .u64 high, .slice AB nB cB, .slice AK nK cK]) (by simp [results, Tryz.results161, go_sem]) rfl ⟨by rfl, by first | exact (((Below.refl _ _).alloc (Nat.le_refl _) _).alloc (by simp) _) | (repeat (first | exact (((Below.refl _ _).alloc (Nat.le_refl _) _).alloc (by simp) _) | (refine Below.setCell ?_ (by simp) _)))⟩
theorem docBare_15 (n bits high : Int) (text more : ByteArray) (AB AK : Option Addr) (nB cB nK cK : Nat) (w : World) : Calls Tryz.prog 161 #[.agg #[.int .i64 15, .string text, .string more, .int .i64 n, .int .u64 bits, .int .u64 high, .slice AB nB cB, .slice AK nK cK]] w fun e w' => e = .returned (bareV 15 n bits high text more (.slice AB nB cB) (.slice AK nK cK)) ∧ Below w.heap.size w w' := by
  have hu := Tryz.underlying46
  go_enter Tryz.func161, Tryz.ntmps161
  go_wp2
  exact bodyPost_ret (v := .agg #[.int .i64 15, .string ⟨#[]⟩, .string more, .int .i64 n, .int .u64 bits, .int .u64 high, .slice AB nB cB, .slice none 0 0]) (by simp [results, Tryz.results161, go_sem]) rfl ⟨by rfl, by first | exact (((Below.refl _ _).alloc (Nat.le_refl _) _).alloc (by simp) _) | (repeat (first | exact (((Below.refl _ _).alloc (Nat.le_refl _) _).alloc (by simp) _) | (refine Below.setCell ?_ (by simp) _)))⟩
theorem docBare_16 (n bits high : Int) (text more : ByteArray) (AB AK : Option Addr) (nB cB nK cK : Nat) (w : World) : Calls Tryz.prog 161 #[.agg #[.int .i64 16, .string text, .string more, .int .i64 n, .int .u64 bits, .int .u64 high, .slice AB nB cB, .slice AK nK cK]] w fun e w' => e = .returned (bareV 16 n bits high text more (.slice AB nB cB) (.slice AK nK cK)) ∧ Below w.heap.size w w' := by
  have hu := Tryz.underlying46
  go_enter Tryz.func161, Tryz.ntmps161
  go_wp2
  exact bodyPost_ret (v := .agg #[.int .i64 16, .string text, .string more, .int .i64 0, .int .u64 bits, .int .u64 high, .slice AB nB cB, .slice AK nK cK]) (by simp [results, Tryz.results161, go_sem]) rfl ⟨by rfl, by first | exact (((Below.refl _ _).alloc (Nat.le_refl _) _).alloc (by simp) _) | (repeat (first | exact (((Below.refl _ _).alloc (Nat.le_refl _) _).alloc (by simp) _) | (refine Below.setCell ?_ (by simp) _)))⟩
theorem docBare_17 (n bits high : Int) (text more : ByteArray) (AB AK : Option Addr) (nB cB nK cK : Nat) (w : World) : Calls Tryz.prog 161 #[.agg #[.int .i64 17, .string text, .string more, .int .i64 n, .int .u64 bits, .int .u64 high, .slice AB nB cB, .slice AK nK cK]] w fun e w' => e = .returned (bareV 17 n bits high text more (.slice AB nB cB) (.slice AK nK cK)) ∧ Below w.heap.size w w' := by
  have hu := Tryz.underlying46
  go_enter Tryz.func161, Tryz.ntmps161
  go_wp2
  exact bodyPost_ret (v := .agg #[.int .i64 17, .string text, .string more, .int .i64 n, .int .u64 0, .int .u64 high, .slice AB nB cB, .slice AK nK cK]) (by simp [results, Tryz.results161, go_sem]) rfl ⟨by rfl, by first | exact (((Below.refl _ _).alloc (Nat.le_refl _) _).alloc (by simp) _) | (repeat (first | exact (((Below.refl _ _).alloc (Nat.le_refl _) _).alloc (by simp) _) | (refine Below.setCell ?_ (by simp) _)))⟩
theorem docBare_18 (n bits high : Int) (text more : ByteArray) (AB AK : Option Addr) (nB cB nK cK : Nat) (w : World) : Calls Tryz.prog 161 #[.agg #[.int .i64 18, .string text, .string more, .int .i64 n, .int .u64 bits, .int .u64 high, .slice AB nB cB, .slice AK nK cK]] w fun e w' => e = .returned (bareV 18 n bits high text more (.slice AB nB cB) (.slice AK nK cK)) ∧ Below w.heap.size w w' := by
  have hu := Tryz.underlying46
  go_enter Tryz.func161, Tryz.ntmps161
  go_wp2
  exact bodyPost_ret (v := .agg #[.int .i64 18, .string text, .string more, .int .i64 0, .int .u64 bits, .int .u64 high, .slice AB nB cB, .slice AK nK cK]) (by simp [results, Tryz.results161, go_sem]) rfl ⟨by rfl, by first | exact (((Below.refl _ _).alloc (Nat.le_refl _) _).alloc (by simp) _) | (repeat (first | exact (((Below.refl _ _).alloc (Nat.le_refl _) _).alloc (by simp) _) | (refine Below.setCell ?_ (by simp) _)))⟩
theorem docBare_19 (n bits high : Int) (text more : ByteArray) (AB AK : Option Addr) (nB cB nK cK : Nat) (w : World) : Calls Tryz.prog 161 #[.agg #[.int .i64 19, .string text, .string more, .int .i64 n, .int .u64 bits, .int .u64 high, .slice AB nB cB, .slice AK nK cK]] w fun e w' => e = .returned (bareV 19 n bits high text more (.slice AB nB cB) (.slice AK nK cK)) ∧ Below w.heap.size w w' := by
  have hu := Tryz.underlying46
  go_enter Tryz.func161, Tryz.ntmps161
  go_wp2
  exact bodyPost_ret (v := .agg #[.int .i64 19, .string text, .string more, .int .i64 n, .int .u64 0, .int .u64 0, .slice AB nB cB, .slice AK nK cK]) (by simp [results, Tryz.results161, go_sem]) rfl ⟨by rfl, by first | exact (((Below.refl _ _).alloc (Nat.le_refl _) _).alloc (by simp) _) | (repeat (first | exact (((Below.refl _ _).alloc (Nat.le_refl _) _).alloc (by simp) _) | (refine Below.setCell ?_ (by simp) _)))⟩
theorem docBare_other (k : Int) (n bits high : Int) (text more : ByteArray) (AB AK : Option Addr) (nB cB nK cK : Nat) (w : World) (hk : ∀ c ∈ [(1 : Int), (2 : Int), (3 : Int), (4 : Int), (5 : Int), (7 : Int), (8 : Int), (9 : Int), (11 : Int), (12 : Int), (13 : Int), (14 : Int), (15 : Int), (16 : Int), (17 : Int), (18 : Int), (19 : Int)], k ≠ c) : Calls Tryz.prog 161 #[.agg #[.int .i64 k, .string text, .string more, .int .i64 n, .int .u64 bits, .int .u64 high, .slice AB nB cB, .slice AK nK cK]] w fun e w' => e = .returned (bareV k n bits high text more (.slice AB nB cB) (.slice AK nK cK)) ∧ Below w.heap.size w w' := by
  have hu := Tryz.underlying46
  have e1 : (k == 1) = false := beq_eq_false_iff_ne.2 (hk 1 (by simp))
  have e2 : (k == 2) = false := beq_eq_false_iff_ne.2 (hk 2 (by simp))
  have e3 : (k == 3) = false := beq_eq_false_iff_ne.2 (hk 3 (by simp))
  have e4 : (k == 4) = false := beq_eq_false_iff_ne.2 (hk 4 (by simp))
  have e5 : (k == 5) = false := beq_eq_false_iff_ne.2 (hk 5 (by simp))
  have e7 : (k == 7) = false := beq_eq_false_iff_ne.2 (hk 7 (by simp))
  have e8 : (k == 8) = false := beq_eq_false_iff_ne.2 (hk 8 (by simp))
  have e9 : (k == 9) = false := beq_eq_false_iff_ne.2 (hk 9 (by simp))
  have e11 : (k == 11) = false := beq_eq_false_iff_ne.2 (hk 11 (by simp))
  have e12 : (k == 12) = false := beq_eq_false_iff_ne.2 (hk 12 (by simp))
  have e13 : (k == 13) = false := beq_eq_false_iff_ne.2 (hk 13 (by simp))
  have e14 : (k == 14) = false := beq_eq_false_iff_ne.2 (hk 14 (by simp))
  have e15 : (k == 15) = false := beq_eq_false_iff_ne.2 (hk 15 (by simp))
  have e16 : (k == 16) = false := beq_eq_false_iff_ne.2 (hk 16 (by simp))
  have e17 : (k == 17) = false := beq_eq_false_iff_ne.2 (hk 17 (by simp))
  have e18 : (k == 18) = false := beq_eq_false_iff_ne.2 (hk 18 (by simp))
  have e19 : (k == 19) = false := beq_eq_false_iff_ne.2 (hk 19 (by simp))
  have hv : bareV k n bits high text more (.slice AB nB cB) (.slice AK nK cK) = .agg #[.int .i64 k, .string text, .string more, .int .i64 n, .int .u64 bits, .int .u64 high, .slice AB nB cB, .slice AK nK cK] := by
    simp [bareV, bareText, bareMore, bareN, bareBits, bareHigh, bareBy, bareKids, e1, e2, e3, e4, e5, e7, e8, e9, e11, e12, e13, e14, e15, e16, e17, e18, e19]
  rw [hv]; clear hv hk
  go_enter Tryz.func161, Tryz.ntmps161
  go_wp2
  exact bodyPost_ret (v := .agg #[.int .i64 k, .string text, .string more, .int .i64 n, .int .u64 bits, .int .u64 high, .slice AB nB cB, .slice AK nK cK]) (by simp [results, Tryz.results161, go_sem]) rfl ⟨by rfl, by first | exact (((Below.refl _ _).alloc (Nat.le_refl _) _).alloc (by simp) _) | (repeat (first | exact (((Below.refl _ _).alloc (Nat.le_refl _) _).alloc (by simp) _) | (refine Below.setCell ?_ (by simp) _)))⟩
theorem docBare_calls (k : Int) (n bits high : Int) (text more : ByteArray) (AB AK : Option Addr) (nB cB nK cK : Nat) (w : World) : Calls Tryz.prog 161 #[.agg #[.int .i64 k, .string text, .string more, .int .i64 n, .int .u64 bits, .int .u64 high, .slice AB nB cB, .slice AK nK cK]] w fun e w' => e = .returned (bareV k n bits high text more (.slice AB nB cB) (.slice AK nK cK)) ∧ Below w.heap.size w w' := by
  by_cases h1 : k = 1
  · subst h1; exact docBare_1 n bits high text more AB AK nB cB nK cK w
  by_cases h2 : k = 2
  · subst h2; exact docBare_2 n bits high text more AB AK nB cB nK cK w
  by_cases h3 : k = 3
  · subst h3; exact docBare_3 n bits high text more AB AK nB cB nK cK w
  by_cases h4 : k = 4
  · subst h4; exact docBare_4 n bits high text more AB AK nB cB nK cK w
  by_cases h5 : k = 5
  · subst h5; exact docBare_5 n bits high text more AB AK nB cB nK cK w
  by_cases h7 : k = 7
  · subst h7; exact docBare_7 n bits high text more AB AK nB cB nK cK w
  by_cases h8 : k = 8
  · subst h8; exact docBare_8 n bits high text more AB AK nB cB nK cK w
  by_cases h9 : k = 9
  · subst h9; exact docBare_9 n bits high text more AB AK nB cB nK cK w
  by_cases h11 : k = 11
  · subst h11; exact docBare_11 n bits high text more AB AK nB cB nK cK w
  by_cases h12 : k = 12
  · subst h12; exact docBare_12 n bits high text more AB AK nB cB nK cK w
  by_cases h13 : k = 13
  · subst h13; exact docBare_13 n bits high text more AB AK nB cB nK cK w
  by_cases h14 : k = 14
  · subst h14; exact docBare_14 n bits high text more AB AK nB cB nK cK w
  by_cases h15 : k = 15
  · subst h15; exact docBare_15 n bits high text more AB AK nB cB nK cK w
  by_cases h16 : k = 16
  · subst h16; exact docBare_16 n bits high text more AB AK nB cB nK cK w
  by_cases h17 : k = 17
  · subst h17; exact docBare_17 n bits high text more AB AK nB cB nK cK w
  by_cases h18 : k = 18
  · subst h18; exact docBare_18 n bits high text more AB AK nB cB nK cK w
  by_cases h19 : k = 19
  · subst h19; exact docBare_19 n bits high text more AB AK nB cB nK cK w
  exact docBare_other k n bits high text more AB AK nB cB nK cK w (by
    intro c hc
    simp only [List.mem_cons, List.not_mem_nil, or_false] at hc
    rcases hc with rfl | rfl | rfl | rfl | rfl | rfl | rfl | rfl | rfl | rfl | rfl | rfl | rfl | rfl | rfl | rfl | rfl <;> assumption)
def spec_DocDigits.f : Nat → Int → Option (ByteArray)
  | 0, _ => none
  | k + 1, a0 => if a0 < 10 then (some (strOfNums (([(wrap64 (48 + a0)) % 256] : List Int)))) else ((spec_DocDigits.f k (wrap64 (Int.tdiv a0 10))).bind fun t463 => ((some (([(wrap64 (48 + (Int.tmod a0 10))) % 256] : List Int) : List Int)).bind fun y464 => (if t463.size + (strOfNums y464).size ≤ 9223372036854775807 then (some (t463 ++ (strOfNums y464))) else (none))))
theorem spec_DocDigits.mono_l : ∀ k, (∀ y0, LeO (spec_DocDigits.f k y0) (spec_DocDigits.f (k + 1) y0))
  | 0 => fun _ r h => by simp [spec_DocDigits.f] at h
  | k + 1 => by
    have ih0 := spec_DocDigits.mono_l k
    · intro y0
      unfold spec_DocDigits.f
      have m0_ := @ih0; exact HW.mo
theorem spec_DocDigits.mono : ∀ a0 k, LeO (spec_DocDigits.f k a0) (spec_DocDigits.f (k + 1) a0) := by
  intro a0 k
  have ih0 := spec_DocDigits.mono_l k
  exact ih0 a0
def spec_DocDigits.T3 : Bool × List (List Nat × List Nat) := (true, [([], []), ([0], [0]), ([1], [1]), ([], []), ([3], [3]), ([4], [4]), ([5], [5]), ([6], [6]), ([7], [7]), ([2, 8], [2, 8]), ([9, 2, 0, 1, 2, 3, 4, 5, 6, 7, 8, 9], [9])])
def spec_DocDigits.B3 : List Nat := [0, 1, 3, 0, 8, 24, 56, 120, 248, 511, 1023]
theorem spec_DocDigits.tab3 : rtab .any (opsOf Tryz.f162 3) = spec_DocDigits.T3 := by kernel_rfl
theorem spec_DocDigits.bits3 : waitsOk spec_DocDigits.T3.2 spec_DocDigits.B3 = true := by kernel_rfl
theorem spec_DocDigits.calls (k : Nat) : ∀ (a0 : Int) (r : ByteArray) (w : World) (h : spec_DocDigits.f k a0 = some r),
    Calls Tryz.prog 162 #[.int .i64 a0] w fun e w' => e = .returned (.string r) ∧ Below w.heap.size w w' := by
  induction k using Nat.strongRecOn with
  | _ k ih =>
  intro a0 r w h
  cases k with
  | zero => exact absurd h (by simp [spec_DocDigits.f])
  | succ k =>
  simp only [spec_DocDigits.f] at h
  have HB := Aside0.mk (Below.refl w.heap.size w); have H : (if a0 < 10 then (some (strOfNums (([(wrap64 (48 + a0)) % 256] : List Int)))) else ((spec_DocDigits.f k (wrap64 (Int.tdiv a0 10))).bind fun t463 => ((some (([(wrap64 (48 + (Int.tmod a0 10))) % 256] : List Int) : List Int)).bind fun y464 => (if t463.size + (strOfNums y464).size ≤ 9223372036854775807 then (some (t463 ++ (strOfNums y464))) else (none))))) = some r := h; clear h
  by_cases c2 : a0 < 10
  · rw [if_pos c2] at H
    have c2b0 : decide (a0 < 10) = true := decide_eq_true c2; clear c2; obtain ⟨y460, hy460⟩ : ∃ y_ : List Int, y_ = (([(wrap64 (48 + a0)) % 256] : List Int)) := ⟨_, rfl⟩
    replace H : (some (strOfNums y460)) = some r := by (try rw [hy460]); exact HW.rp
    have Ny460 := Aside0.mk hy460; clear hy460
    as_aux_lemma =>
      obtain rfl := Option.some.inj H
      go_enter Tryz.func162, Tryz.ntmps162
      go_wp2_with (first | ((with_reducible refine gate_dst (N := 8) rfl ?_); refine Kd.R_lit (Kd.int .u8) _ 5 ?hg (N := 8) ?hd (xs := ([(wrap64 (48 + a0)) % 256] : List Int)) (inner := [.int .u8 ((wrap64 (48 + a0)) % 256)]) (ok := fun _ => True) (okp := fun _ => True) ?hr ?hp (fun _ hk => hk) trivial (Below.refl _ _) (Nat.le_refl _) (by simp) ?_; (case hd => rfl); (case hg => rfl); (case hr => first | (go_simp; done) | (go_simp; rfl)); (case hp => exact (Reps.one (show Kd.M (Kd.int .u8) _ _ _ ((wrap64 (48 + a0)) % 256) [.int .u8 ((wrap64 (48 + a0)) % 256)] from rfl) (Reps.none _ _))); intro v461 w3 ho4 hb hg_ hnew_; clear hg_ hnew_; (first | rw [← Ny460.out] at ho4 | (simp only [Int.reduceToNat] at ho4; rw [← Ny460.out] at ho4)); have HO462 := Aside0.mk (Kd.R_lower ho4 (below_size HW.zb)); replace HB := Aside0.mk (below_step HW.zb hb); clear hb ho4; have hcv5 := own_string (P := Tryz.prog) Tryz.underlying22 Tryz.underlying5 Tryz.underlying9 (Kd.own_of_R HO462.out)))
      go_ret
      exact ⟨rfl, HW.zb⟩
  rw [if_neg c2] at H; have c2b0 : decide (a0 < 10) = false := decide_eq_false c2; clear c2; replace H := Option.bind_eq_some_iff.mp H; obtain ⟨t463, A60, H⟩ := H; replace H : ((some (([(wrap64 (48 + (Int.tmod a0 10))) % 256] : List Int) : List Int)).bind fun y464 => (if t463.size + (strOfNums y464).size ≤ 9223372036854775807 then (some (t463 ++ (strOfNums y464))) else (none))) = some r := H; have A6 := Aside0.mk A60; clear A60; obtain ⟨y464, hy464⟩ : ∃ y_ : List Int, y_ = (([(wrap64 (48 + (Int.tmod a0 10))) % 256] : List Int)) := ⟨_, rfl⟩
  replace H : (if t463.size + (strOfNums y464).size ≤ 9223372036854775807 then (some (t463 ++ (strOfNums y464))) else (none)) = some r := by (try rw [hy464]); exact HW.rp
  have Ny464 := Aside0.mk hy464; clear hy464
  by_cases c7 : t463.size + (strOfNums y464).size ≤ 9223372036854775807
  rotate_left
  · rw [if_neg c7] at H
    exact absurd H (by simp)
  rw [if_pos c7] at H; have c7b0 := eq_true c7; have c7b1 : decide (t463.size + (strOfNums y464).size ≤ 9223372036854775807) = true := decide_eq_true c7
  try have c7b2 : (9223372036854775807 < t463.size + (strOfNums y464).size) = False := eq_false (Nat.not_lt.2 c7)
  as_aux_lemma =>
    obtain rfl := Option.some.inj H
    go_enter Tryz.func162, Tryz.ntmps162
    try go_wp2
    replace HB := Aside0.mk (below_drew1 HB.out)
    refine start_ (n := 11) (S := fun w' => True) (ds := []) #[ff,ff,ff,ff,ff,ff,ff,ff,ff,ff,ff] (by kernel_rfl) rfl rfl trivial (fun hHeld => ?_); refine with_tabW spec_DocDigits.tab3 spec_DocDigits.bits3 (fun HT_ HW_ => ?_)
    generalize w.drew = w8 at HB hHeld ⊢
    refine HW.pz (i := 0) (N := some 10) #[tt,ff,ff,ff,ff,ff,ff,ff,ff,ff,ff] ?_ (hc := any_of HT_.out (by kernel_rfl))
    refine HW.pz (i := 1) (N := some 11) #[tt,tt,ff,ff,ff,ff,ff,ff,ff,ff,ff] ?_ (hc := any_of HT_.out (by kernel_rfl))
    refine HW.pz (i := 3) (N := some 13) #[tt,tt,ff,tt,ff,ff,ff,ff,ff,ff,ff] ?_ (hc := any_of HT_.out (by kernel_rfl))
    refine HW.pz (i := 4) (N := some 14) #[tt,tt,ff,tt,tt,ff,ff,ff,ff,ff,ff] ?_ (hc := any_of HT_.out (by kernel_rfl))
    refine HW.pz (i := 5) (N := some 15) #[tt,tt,ff,tt,tt,tt,ff,ff,ff,ff,ff] ?_ (hc := any_of HT_.out (by kernel_rfl))
    refine HW.pz (i := 6) (N := some 16) #[tt,tt,ff,tt,tt,tt,tt,ff,ff,ff,ff] ?_ (hc := any_of HT_.out (by kernel_rfl))
    refine join_ (σ := Value) 2 #[tt,tt,tt,tt,tt,tt,tt,tt,tt,ff,ff] (fun s_ => [(12, .string t463), (17, s_), (18, .string (strOfNums y464))]) (fun s_ w' => (Kd.R (Kd.int .u8) 5 w' w.heap.size (fun _ => True) s_ y464) ∧ (Below w.heap.size w w')) ?_ ?_
    rotate_left
    · intro hCont
      refine two_ (i := 2) (j := 7) (Ni := some 12) (Nj := some 17) #[tt,tt,tt,tt,tt,tt,tt,ff,ff,ff,ff] #[tt,tt,ff,tt,tt,tt,tt,tt,ff,ff,ff] rfl rfl rfl rfl (two_of HT_.out (by kernel_rfl)) (by decide) (by decide) (fun K hK => ?_) (fun K hK => ?_)
      · skip
        refine goes_ Tryz.func162 (by kernel_rfl) rfl #[.int .i64 (wrap64 (Int.tdiv a0 10))] (by rfl) rfl rfl HW.mt ?_
        with_reducible refine (ih k (by omega) (wrap64 (Int.tdiv a0 10)) t463 _ A6.out).mono ?_
        rintro e w9 ⟨rfl, hb⟩
        refine ⟨_, rfl, ?_⟩
        replace HB := Aside0.mk (below_step HW.zb hb)
        (try clear hb)
        refine hK.out _ _ trivial (fun hHeld => ?_)
        clear hK K
        refine HW.nz (N := (some 12)) ?_
        refine one_ (i := 7) (N := some 17) #[tt,tt,tt,tt,tt,tt,tt,tt,ff,ff,ff] rfl rfl (one_of HT_.out (by kernel_rfl)) (by decide) (fun K hK => ?_)
        refine Kd.R_lit_step (Kd.int .u8) _ 5 ?hg (N := 17) ?hd (xs := ([(wrap64 (48 + (Int.tmod a0 10))) % 256] : List Int)) (inner := [.int .u8 ((wrap64 (48 + (Int.tmod a0 10))) % 256)]) (ok := fun _ => True) (okp := fun _ => True) ?hr ?hp (fun _ hk => hk) trivial (Below.refl _ _) (Nat.le_refl _) (by simp) ?_; (case hd => rfl); (case hg => rfl); (case hr => first | (go_simp; done) | (go_simp; rfl)); (case hp => exact (Reps.one (show Kd.M (Kd.int .u8) _ _ _ ((wrap64 (48 + (Int.tmod a0 10))) % 256) [.int .u8 ((wrap64 (48 + (Int.tmod a0 10))) % 256)] from rfl) (Reps.none _ _)))
        intro v465 w10 ho11 hb hg_ hnew_
        clear hg_ hnew_
        (first | rw [← Ny464.out] at ho11 | (simp only [Int.reduceToNat] at ho11; rw [← Ny464.out] at ho11))
        have HO466 := Aside0.mk (Kd.R_lower ho11 (below_size HW.zb)); replace HB := Aside0.mk (below_step HW.zb hb); clear hb ho11
        refine hK.out _ _ trivial (fun hHeld => ?_)
        clear hK K
        refine HW.nz (N := (some 17)) ?_
        refine one_ (i := 8) (N := some 18) #[tt,tt,tt,tt,tt,tt,tt,tt,tt,ff,ff] rfl rfl (one_of HT_.out (by kernel_rfl)) (by decide) (fun K hK => ?_)
        have hcv12 := own_string (P := Tryz.prog) Tryz.underlying22 Tryz.underlying5 Tryz.underlying9 (Kd.own_of_R HO466.out)
        refine value_ (w1 := ?_) (v := ?_) (by rfl) rfl ?_ ?_
        rotate_left 2
        · go_simp
          constructor
          · rfl
          rfl
        clear hcv12
        refine hK.out _ _ trivial (fun hHeld => ?_)
        clear hK K
        refine HW.nz (N := (some 18)) ?_
        exact norm_ (by simp only [putAll, Act.put, List.setIfInBounds_toArray, List.set_cons_zero, List.set_cons_succ, errW_none]) (hCont (v465) _ ⟨(HW.zR HO466.out), HW.zb⟩)
      skip
      refine Kd.R_lit_step (Kd.int .u8) _ 5 ?hg (N := 17) ?hd (xs := ([(wrap64 (48 + (Int.tmod a0 10))) % 256] : List Int)) (inner := [.int .u8 ((wrap64 (48 + (Int.tmod a0 10))) % 256)]) (ok := fun _ => True) (okp := fun _ => True) ?hr ?hp (fun _ hk => hk) trivial (Below.refl _ _) (Nat.le_refl _) (by simp) ?_; (case hd => rfl); (case hg => rfl); (case hr => first | (go_simp; done) | (go_simp; rfl)); (case hp => exact (Reps.one (show Kd.M (Kd.int .u8) _ _ _ ((wrap64 (48 + (Int.tmod a0 10))) % 256) [.int .u8 ((wrap64 (48 + (Int.tmod a0 10))) % 256)] from rfl) (Reps.none _ _)))
      intro v465 w9 ho10 hb hg_ hnew_
      clear hg_ hnew_
      (first | rw [← Ny464.out] at ho10 | (simp only [Int.reduceToNat] at ho10; rw [← Ny464.out] at ho10))
      have HO466 := Aside0.mk (Kd.R_lower ho10 (below_size HW.zb)); replace HB := Aside0.mk (below_step HW.zb hb); clear hb ho10
      refine hK.out _ _ trivial (fun hHeld => ?_)
      clear hK K
      refine HW.nz (N := (some 17)) ?_
      refine two_ (i := 2) (j := 8) (Ni := some 12) (Nj := some 18) #[tt,tt,tt,tt,tt,tt,tt,tt,ff,ff,ff] #[tt,tt,ff,tt,tt,tt,tt,tt,tt,ff,ff] rfl rfl rfl rfl (two_of HT_.out (by kernel_rfl)) (by decide) (by decide) (fun K hK => ?_) (fun K hK => ?_)
      · skip
        refine goes_ Tryz.func162 (by kernel_rfl) rfl #[.int .i64 (wrap64 (Int.tdiv a0 10))] (by rfl) rfl rfl HW.mt ?_
        with_reducible refine (ih k (by omega) (wrap64 (Int.tdiv a0 10)) t463 _ A6.out).mono ?_
        rintro e w11 ⟨rfl, hb⟩
        refine ⟨_, rfl, ?_⟩
        replace HO466 := Aside0.mk (Kd.R_below (HW.zR HO466.out) hb); replace HB := Aside0.mk (below_step HW.zb hb)
        (try clear hb)
        refine hK.out _ _ trivial (fun hHeld => ?_)
        clear hK K
        refine HW.nz (N := (some 12)) ?_
        refine one_ (i := 8) (N := some 18) #[tt,tt,tt,tt,tt,tt,tt,tt,tt,ff,ff] rfl rfl (one_of HT_.out (by kernel_rfl)) (by decide) (fun K hK => ?_)
        have hcv12 := own_string (P := Tryz.prog) Tryz.underlying22 Tryz.underlying5 Tryz.underlying9 (Kd.own_of_R HO466.out)
        refine value_ (w1 := ?_) (v := ?_) (by rfl) rfl ?_ ?_
        rotate_left 2
        · go_simp
          constructor
          · rfl
          rfl
        clear hcv12
        refine hK.out _ _ trivial (fun hHeld => ?_)
        clear hK K
        refine HW.nz (N := (some 18)) ?_
        exact norm_ (by simp only [putAll, Act.put, List.setIfInBounds_toArray, List.set_cons_zero, List.set_cons_succ, errW_none]) (hCont (v465) _ ⟨(HW.zR HO466.out), HW.zb⟩)
      skip
      have hcv11 := own_string (P := Tryz.prog) Tryz.underlying22 Tryz.underlying5 Tryz.underlying9 (Kd.own_of_R HO466.out)
      refine value_ (w1 := ?_) (v := ?_) (by rfl) rfl ?_ ?_
      rotate_left 2
      · go_simp
        constructor
        · rfl
        rfl
      clear hcv11
      refine hK.out _ _ trivial (fun hHeld => ?_)
      clear hK K
      refine HW.nz (N := (some 18)) ?_
      refine one_ (i := 2) (N := some 12) #[tt,tt,tt,tt,tt,tt,tt,tt,tt,ff,ff] rfl rfl (one_of HT_.out (by kernel_rfl)) (by decide) (fun K hK => ?_)
      refine goes_ Tryz.func162 (by kernel_rfl) rfl #[.int .i64 (wrap64 (Int.tdiv a0 10))] (by rfl) rfl rfl HW.mt ?_
      with_reducible refine (ih k (by omega) (wrap64 (Int.tdiv a0 10)) t463 _ A6.out).mono ?_
      rintro e w12 ⟨rfl, hb⟩
      refine ⟨_, rfl, ?_⟩
      replace HO466 := Aside0.mk (Kd.R_below (HW.zR HO466.out) hb); replace HB := Aside0.mk (below_step HW.zb hb)
      (try clear hb)
      refine hK.out _ _ trivial (fun hHeld => ?_)
      clear hK K
      refine HW.nz (N := (some 12)) ?_
      exact norm_ (by simp only [putAll, Act.put, List.setIfInBounds_toArray, List.set_cons_zero, List.set_cons_succ, errW_none]) (hCont (v465) _ ⟨(HW.zR HO466.out), HW.zb⟩)
    rintro v465 w13 ⟨h0_, h1_⟩
    have n0_ : Aside0 (Kd.R (Kd.int .u8) 5 w13 w.heap.size (fun _ => True) v465 y464) := ⟨h0_⟩; have n1_ : Aside0 (Below w.heap.size w w13) := ⟨h1_⟩; clear HB; clear h0_ h1_; have HO466 := n0_; have HB := n1_; clear n0_ n1_; have hHeld := trivial
    refine norm_ (a' := ?_) ?_ ?_
    rotate_left
    · simp only [putAll, Act.put, List.setIfInBounds_toArray, List.set_cons_zero, List.set_cons_succ, errW_none]
      rfl
    refine HW.pz (i := 9) (N := some 19) #[tt,tt,tt,tt,tt,tt,tt,tt,tt,tt,ff] ?_ (hc := any_of HT_.out (by kernel_rfl))
    refine HW.pz (i := 10) (N := some 2) #[tt,tt,tt,tt,tt,tt,tt,tt,tt,tt,tt] ?_ (hc := any_of HT_.out (by kernel_rfl))
    refine done_ (done_of HT_.out (by kernel_rfl)) ?_
    try go_wp2
    go_ret
    exact ⟨rfl, HW.zb⟩
end Go.Proofs.YtbfhpjkahobgnaaGreatDoor.PLo
