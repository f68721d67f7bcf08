/- Printed by a program of this session (a turned copy of the printer of the kit): contracts of functions of the translation, each with the Lean function that it computes. Conditions: as each theorem states them. -/
import Derived.Test.YtndpbbgniflckaaDoorPBax0
namespace Go.Proofs.YtndpbbgniflckaaDoor.PBa
open Go.RowKit Go.Proofs.YtndpbbgniflckaaDoorW.PrintWords Go.Proofs.YtndpbbgniflckaaDoorW.PrintLast Go.Proofs.YtndpbbgniflckaaDoorW.PrintMore
attribute [local go_sem] max2_int min2_int max_two min_two max_three min_three max_four min_four   -- for this text's walks alone
set_option linter.unusedVariables false
set_option linter.unusedSimpArgs false

/-! ### spec_docBare: function 47 -/
def bareText (k : Int) : Bool := k == 2 || k == 11 || k == 12 || k == 13 || k == 14 || k == 15
def bareMore (k : Int) : Bool := k == 11
def bareN (k : Int) : Bool := k == 5 || k == 8 || k == 9 || k == 16 || k == 18
def bareBits (k : Int) : Bool := k == 1 || k == 17 || k == 19
def bareHigh (k : Int) : Bool := k == 19
def bareBy (k : Int) : Bool := k == 5 || k == 7 || k == 12
def bareKids (k : Int) : Bool := k == 3 || k == 4 || k == 15
def bareV (k n bits high : Int) (text more : ByteArray) (vB vK : Value) : Value := .agg #[.int .i64 k, .string (if bareText k = true then ⟨#[]⟩ else text), .string (if bareMore k = true then ⟨#[]⟩ else more), .int .i64 (if bareN k = true then 0 else n), .int .u64 (if bareBits k = true then 0 else bits), .int .u64 (if bareHigh k = true then 0 else high), if bareBy k = true then .slice none 0 0 else vB, if bareKids k = true then .slice none 0 0 else vK]
set_option maxRecDepth 100000 in
theorem docBare_1 (n bits high : Int) (text more : ByteArray) (AB AK : Option Addr) (nB cB nK cK : Nat) (w : World) : Calls Tryd.prog 47 #[.agg #[.int .i64 1, .string text, .string more, .int .i64 n, .int .u64 bits, .int .u64 high, .slice AB nB cB, .slice AK nK cK]] w fun e w' => e = .returned (bareV 1 n bits high text more (.slice AB nB cB) (.slice AK nK cK)) ∧ Below w.heap.size w w' := by
  have hu := Tryd.underlying26
  go_enter Tryd.func47, Tryd.ntmps47
  go_wp2
  exact bodyPost_ret (v := .agg #[.int .i64 1, .string text, .string more, .int .i64 n, .int .u64 0, .int .u64 high, .slice AB nB cB, .slice AK nK cK]) (by simp [results, Tryd.results47, go_sem]) rfl ⟨by rfl, by first | exact (((Below.refl _ _).alloc (Nat.le_refl _) _).alloc (by simp) _) | (repeat (first | exact (((Below.refl _ _).alloc (Nat.le_refl _) _).alloc (by simp) _) | (refine Below.setCell ?_ (by simp) _)))⟩
set_option maxRecDepth 100000 in
theorem docBare_2 (n bits high : Int) (text more : ByteArray) (AB AK : Option Addr) (nB cB nK cK : Nat) (w : World) : Calls Tryd.prog 47 #[.agg #[.int .i64 2, .string text, .string more, .int .i64 n, .int .u64 bits, .int .u64 high, .slice AB nB cB, .slice AK nK cK]] w fun e w' => e = .returned (bareV 2 n bits high text more (.slice AB nB cB) (.slice AK nK cK)) ∧ Below w.heap.size w w' := by
  have hu := Tryd.underlying26
  go_enter Tryd.func47, Tryd.ntmps47
  go_wp2
  exact bodyPost_ret (v := .agg #[.int .i64 2, .string ⟨#[]⟩, .string more, .int .i64 n, .int .u64 bits, .int .u64 high, .slice AB nB cB, .slice AK nK cK]) (by simp [results, Tryd.results47, go_sem]) rfl ⟨by rfl, by first | exact (((Below.refl _ _).alloc (Nat.le_refl _) _).alloc (by simp) _) | (repeat (first | exact (((Below.refl _ _).alloc (Nat.le_refl _) _).alloc (by simp) _) | (refine Below.setCell ?_ (by simp) _)))⟩
set_option maxRecDepth 100000 in
theorem docBare_3 (n bits high : Int) (text more : ByteArray) (AB AK : Option Addr) (nB cB nK cK : Nat) (w : World) : Calls Tryd.prog 47 #[.agg #[.int .i64 3, .string text, .string more, .int .i64 n, .int .u64 bits, .int .u64 high, .slice AB nB cB, .slice AK nK cK]] w fun e w' => e = .returned (bareV 3 n bits high text more (.slice AB nB cB) (.slice AK nK cK)) ∧ Below w.heap.size w w' := by
  have hu := Tryd.underlying26
  go_enter Tryd.func47, Tryd.ntmps47
  go_wp2
  exact bodyPost_ret (v := .agg #[.int .i64 3, .string text, .string more, .int .i64 n, .int .u64 bits, .int .u64 high, .slice AB nB cB, .slice none 0 0]) (by simp [results, Tryd.results47, go_sem]) rfl ⟨by rfl, by first | exact (((Below.refl _ _).alloc (Nat.le_refl _) _).alloc (by simp) _) | (repeat (first | exact (((Below.refl _ _).alloc (Nat.le_refl _) _).alloc (by simp) _) | (refine Below.setCell ?_ (by simp) _)))⟩
set_option maxRecDepth 100000 in
theorem docBare_4 (n bits high : Int) (text more : ByteArray) (AB AK : Option Addr) (nB cB nK cK : Nat) (w : World) : Calls Tryd.prog 47 #[.agg #[.int .i64 4, .string text, .string more, .int .i64 n, .int .u64 bits, .int .u64 high, .slice AB nB cB, .slice AK nK cK]] w fun e w' => e = .returned (bareV 4 n bits high text more (.slice AB nB cB) (.slice AK nK cK)) ∧ Below w.heap.size w w' := by
  have hu := Tryd.underlying26
  go_enter Tryd.func47, Tryd.ntmps47
  go_wp2
  exact bodyPost_ret (v := .agg #[.int .i64 4, .string text, .string more, .int .i64 n, .int .u64 bits, .int .u64 high, .slice AB nB cB, .slice none 0 0]) (by simp [results, Tryd.results47, go_sem]) rfl ⟨by rfl, by first | exact (((Below.refl _ _).alloc (Nat.le_refl _) _).alloc (by simp) _) | (repeat (first | exact (((Below.refl _ _).alloc (Nat.le_refl _) _).alloc (by simp) _) | (refine Below.setCell ?_ (by simp) _)))⟩
set_option maxRecDepth 100000 in
theorem docBare_5 (n bits high : Int) (text more : ByteArray) (AB AK : Option Addr) (nB cB nK cK : Nat) (w : World) : Calls Tryd.prog 47 #[.agg #[.int .i64 5, .string text, .string more, .int .i64 n, .int .u64 bits, .int .u64 high, .slice AB nB cB, .slice AK nK cK]] w fun e w' => e = .returned (bareV 5 n bits high text more (.slice AB nB cB) (.slice AK nK cK)) ∧ Below w.heap.size w w' := by
  have hu := Tryd.underlying26
  go_enter Tryd.func47, Tryd.ntmps47
  go_wp2
  exact bodyPost_ret (v := .agg #[.int .i64 5, .string text, .string more, .int .i64 0, .int .u64 bits, .int .u64 high, .slice none 0 0, .slice AK nK cK]) (by simp [results, Tryd.results47, go_sem]) rfl ⟨by rfl, by first | exact (((Below.refl _ _).alloc (Nat.le_refl _) _).alloc (by simp) _) | (repeat (first | exact (((Below.refl _ _).alloc (Nat.le_refl _) _).alloc (by simp) _) | (refine Below.setCell ?_ (by simp) _)))⟩
set_option maxRecDepth 100000 in
theorem docBare_7 (n bits high : Int) (text more : ByteArray) (AB AK : Option Addr) (nB cB nK cK : Nat) (w : World) : Calls Tryd.prog 47 #[.agg #[.int .i64 7, .string text, .string more, .int .i64 n, .int .u64 bits, .int .u64 high, .slice AB nB cB, .slice AK nK cK]] w fun e w' => e = .returned (bareV 7 n bits high text more (.slice AB nB cB) (.slice AK nK cK)) ∧ Below w.heap.size w w' := by
  have hu := Tryd.underlying26
  go_enter Tryd.func47, Tryd.ntmps47
  go_wp2
  exact bodyPost_ret (v := .agg #[.int .i64 7, .string text, .string more, .int .i64 n, .int .u64 bits, .int .u64 high, .slice none 0 0, .slice AK nK cK]) (by simp [results, Tryd.results47, go_sem]) rfl ⟨by rfl, by first | exact (((Below.refl _ _).alloc (Nat.le_refl _) _).alloc (by simp) _) | (repeat (first | exact (((Below.refl _ _).alloc (Nat.le_refl _) _).alloc (by simp) _) | (refine Below.setCell ?_ (by simp) _)))⟩
set_option maxRecDepth 100000 in
theorem docBare_8 (n bits high : Int) (text more : ByteArray) (AB AK : Option Addr) (nB cB nK cK : Nat) (w : World) : Calls Tryd.prog 47 #[.agg #[.int .i64 8, .string text, .string more, .int .i64 n, .int .u64 bits, .int .u64 high, .slice AB nB cB, .slice AK nK cK]] w fun e w' => e = .returned (bareV 8 n bits high text more (.slice AB nB cB) (.slice AK nK cK)) ∧ Below w.heap.size w w' := by
  have hu := Tryd.underlying26
  go_enter Tryd.func47, Tryd.ntmps47
  go_wp2
  exact bodyPost_ret (v := .agg #[.int .i64 8, .string text, .string more, .int .i64 0, .int .u64 bits, .int .u64 high, .slice AB nB cB, .slice AK nK cK]) (by simp [results, Tryd.results47, go_sem]) rfl ⟨by rfl, by first | exact (((Below.refl _ _).alloc (Nat.le_refl _) _).alloc (by simp) _) | (repeat (first | exact (((Below.refl _ _).alloc (Nat.le_refl _) _).alloc (by simp) _) | (refine Below.setCell ?_ (by simp) _)))⟩
set_option maxRecDepth 100000 in
theorem docBare_9 (n bits high : Int) (text more : ByteArray) (AB AK : Option Addr) (nB cB nK cK : Nat) (w : World) : Calls Tryd.prog 47 #[.agg #[.int .i64 9, .string text, .string more, .int .i64 n, .int .u64 bits, .int .u64 high, .slice AB nB cB, .slice AK nK cK]] w fun e w' => e = .returned (bareV 9 n bits high text more (.slice AB nB cB) (.slice AK nK cK)) ∧ Below w.heap.size w w' := by
  have hu := Tryd.underlying26
  go_enter Tryd.func47, Tryd.ntmps47
  go_wp2
  exact bodyPost_ret (v := .agg #[.int .i64 9, .string text, .string more, .int .i64 0, .int .u64 bits, .int .u64 high, .slice AB nB cB, .slice AK nK cK]) (by simp [results, Tryd.results47, go_sem]) rfl ⟨by rfl, by first | exact (((Below.refl _ _).alloc (Nat.le_refl _) _).alloc (by simp) _) | (repeat (first | exact (((Below.refl _ _).alloc (Nat.le_refl _) _).alloc (by simp) _) | (refine Below.setCell ?_ (by simp) _)))⟩
set_option maxRecDepth 100000 in
theorem docBare_11 (n bits high : Int) (text more : ByteArray) (AB AK : Option Addr) (nB cB nK cK : Nat) (w : World) : Calls Tryd.prog 47 #[.agg #[.int .i64 11, .string text, .string more, .int .i64 n, .int .u64 bits, .int .u64 high, .slice AB nB cB, .slice AK nK cK]] w fun e w' => e = .returned (bareV 11 n bits high text more (.slice AB nB cB) (.slice AK nK cK)) ∧ Below w.heap.size w w' := by
  have hu := Tryd.underlying26
  go_enter Tryd.func47, Tryd.ntmps47
  go_wp2
  exact bodyPost_ret (v := .agg #[.int .i64 11, .string ⟨#[]⟩, .string ⟨#[]⟩, .int .i64 n, .int .u64 bits, .int .u64 high, .slice AB nB cB, .slice AK nK cK]) (by simp [results, Tryd.results47, go_sem]) rfl ⟨by rfl, by first | exact (((Below.refl _ _).alloc (Nat.le_refl _) _).alloc (by simp) _) | (repeat (first | exact (((Below.refl _ _).alloc (Nat.le_refl _) _).alloc (by simp) _) | (refine Below.setCell ?_ (by simp) _)))⟩
set_option maxRecDepth 100000 in
theorem docBare_12 (n bits high : Int) (text more : ByteArray) (AB AK : Option Addr) (nB cB nK cK : Nat) (w : World) : Calls Tryd.prog 47 #[.agg #[.int .i64 12, .string text, .string more, .int .i64 n, .int .u64 bits, .int .u64 high, .slice AB nB cB, .slice AK nK cK]] w fun e w' => e = .returned (bareV 12 n bits high text more (.slice AB nB cB) (.slice AK nK cK)) ∧ Below w.heap.size w w' := by
  have hu := Tryd.underlying26
  go_enter Tryd.func47, Tryd.ntmps47
  go_wp2
  exact bodyPost_ret (v := .agg #[.int .i64 12, .string ⟨#[]⟩, .string more, .int .i64 n, .int .u64 bits, .int .u64 high, .slice none 0 0, .slice AK nK cK]) (by simp [results, Tryd.results47, go_sem]) rfl ⟨by rfl, by first | exact (((Below.refl _ _).alloc (Nat.le_refl _) _).alloc (by simp) _) | (repeat (first | exact (((Below.refl _ _).alloc (Nat.le_refl _) _).alloc (by simp) _) | (refine Below.setCell ?_ (by simp) _)))⟩
set_option maxRecDepth 100000 in
theorem docBare_13 (n bits high : Int) (text more : ByteArray) (AB AK : Option Addr) (nB cB nK cK : Nat) (w : World) : Calls Tryd.prog 47 #[.agg #[.int .i64 13, .string text, .string more, .int .i64 n, .int .u64 bits, .int .u64 high, .slice AB nB cB, .slice AK nK cK]] w fun e w' => e = .returned (bareV 13 n bits high text more (.slice AB nB cB) (.slice AK nK cK)) ∧ Below w.heap.size w w' := by
  have hu := Tryd.underlying26
  go_enter Tryd.func47, Tryd.ntmps47
  go_wp2
  exact bodyPost_ret (v := .agg #[.int .i64 13, .string ⟨#[]⟩, .string more, .int .i64 n, .int .u64 bits, .int .u64 high, .slice AB nB cB, .slice AK nK cK]) (by simp [results, Tryd.results47, go_sem]) rfl ⟨by rfl, by first | exact (((Below.refl _ _).alloc (Nat.le_refl _) _).alloc (by simp) _) | (repeat (first | exact (((Below.refl _ _).alloc (Nat.le_refl _) _).alloc (by simp) _) | (refine Below.setCell ?_ (by simp) _)))⟩
set_option maxRecDepth 100000 in
theorem docBare_14 (n bits high : Int) (text more : ByteArray) (AB AK : Option Addr) (nB cB nK cK : Nat) (w : World) : Calls Tryd.prog 47 #[.agg #[.int .i64 14, .string text, .string more, .int .i64 n, .int .u64 bits, .int .u64 high, .slice AB nB cB, .slice AK nK cK]] w fun e w' => e = .returned (bareV 14 n bits high text more (.slice AB nB cB) (.slice AK nK cK)) ∧ Below w.heap.size w w' := by
  have hu := Tryd.underlying26
  go_enter Tryd.func47, Tryd.ntmps47
  go_wp2
  exact bodyPost_ret (v := .agg #[.int .i64 14, .string ⟨#[]⟩, .string more, .int .i64 n, .int .u64 bits, .int .u64 high, .slice AB nB cB, .slice AK nK cK]) (by simp [results, Tryd.results47, go_sem]) rfl ⟨by rfl, by first | exact (((Below.refl _ _).alloc (Nat.le_refl _) _).alloc (by simp) _) | (repeat (first | exact (((Below.refl _ _).alloc (Nat.le_refl _) _).alloc (by simp) _) | (refine Below.setCell ?_ (by simp) _)))⟩
set_option maxRecDepth 100000 in
theorem docBare_15 (n bits high : Int) (text more : ByteArray) (AB AK : Option Addr) (nB cB nK cK : Nat) (w : World) : Calls Tryd.prog 47 #[.agg #[.int .i64 15, .string text, .string more, .int .i64 n, .int .u64 bits, .int .u64 high, .slice AB nB cB, .slice AK nK cK]] w fun e w' => e = .returned (bareV 15 n bits high text more (.slice AB nB cB) (.slice AK nK cK)) ∧ Below w.heap.size w w' := by
  have hu := Tryd.underlying26
  go_enter Tryd.func47, Tryd.ntmps47
  go_wp2
  exact bodyPost_ret (v := .agg #[.int .i64 15, .string ⟨#[]⟩, .string more, .int .i64 n, .int .u64 bits, .int .u64 high, .slice AB nB cB, .slice none 0 0]) (by simp [results, Tryd.results47, go_sem]) rfl ⟨by rfl, by first | exact (((Below.refl _ _).alloc (Nat.le_refl _) _).alloc (by simp) _) | (repeat (first | exact (((Below.refl _ _).alloc (Nat.le_refl _) _).alloc (by simp) _) | (refine Below.setCell ?_ (by simp) _)))⟩
set_option maxRecDepth 100000 in
theorem docBare_16 (n bits high : Int) (text more : ByteArray) (AB AK : Option Addr) (nB cB nK cK : Nat) (w : World) : Calls Tryd.prog 47 #[.agg #[.int .i64 16, .string text, .string more, .int .i64 n, .int .u64 bits, .int .u64 high, .slice AB nB cB, .slice AK nK cK]] w fun e w' => e = .returned (bareV 16 n bits high text more (.slice AB nB cB) (.slice AK nK cK)) ∧ Below w.heap.size w w' := by
  have hu := Tryd.underlying26
  go_enter Tryd.func47, Tryd.ntmps47
  go_wp2
  exact bodyPost_ret (v := .agg #[.int .i64 16, .string text, .string more, .int .i64 0, .int .u64 bits, .int .u64 high, .slice AB nB cB, .slice AK nK cK]) (by simp [results, Tryd.results47, go_sem]) rfl ⟨by rfl, by first | exact (((Below.refl _ _).alloc (Nat.le_refl _) _).alloc (by simp) _) | (repeat (first | exact (((Below.refl _ _).alloc (Nat.le_refl _) _).alloc (by simp) _) | (refine Below.setCell ?_ (by simp) _)))⟩
set_option maxRecDepth 100000 in
theorem docBare_17 (n bits high : Int) (text more : ByteArray) (AB AK : Option Addr) (nB cB nK cK : Nat) (w : World) : Calls Tryd.prog 47 #[.agg #[.int .i64 17, .string text, .string more, .int .i64 n, .int .u64 bits, .int .u64 high, .slice AB nB cB, .slice AK nK cK]] w fun e w' => e = .returned (bareV 17 n bits high text more (.slice AB nB cB) (.slice AK nK cK)) ∧ Below w.heap.size w w' := by
  have hu := Tryd.underlying26
  go_enter Tryd.func47, Tryd.ntmps47
  go_wp2
  exact bodyPost_ret (v := .agg #[.int .i64 17, .string text, .string more, .int .i64 n, .int .u64 0, .int .u64 high, .slice AB nB cB, .slice AK nK cK]) (by simp [results, Tryd.results47, go_sem]) rfl ⟨by rfl, by first | exact (((Below.refl _ _).alloc (Nat.le_refl _) _).alloc (by simp) _) | (repeat (first | exact (((Below.refl _ _).alloc (Nat.le_refl _) _).alloc (by simp) _) | (refine Below.setCell ?_ (by simp) _)))⟩
set_option maxRecDepth 100000 in
theorem docBare_18 (n bits high : Int) (text more : ByteArray) (AB AK : Option Addr) (nB cB nK cK : Nat) (w : World) : Calls Tryd.prog 47 #[.agg #[.int .i64 18, .string text, .string more, .int .i64 n, .int .u64 bits, .int .u64 high, .slice AB nB cB, .slice AK nK cK]] w fun e w' => e = .returned (bareV 18 n bits high text more (.slice AB nB cB) (.slice AK nK cK)) ∧ Below w.heap.size w w' := by
  have hu := Tryd.underlying26
  go_enter Tryd.func47, Tryd.ntmps47
  go_wp2
  exact bodyPost_ret (v := .agg #[.int .i64 18, .string text, .string more, .int .i64 0, .int .u64 bits, .int .u64 high, .slice AB nB cB, .slice AK nK cK]) (by simp [results, Tryd.results47, go_sem]) rfl ⟨by rfl, by first | exact (((Below.refl _ _).alloc (Nat.le_refl _) _).alloc (by simp) _) | (repeat (first | exact (((Below.refl _ _).alloc (Nat.le_refl _) _).alloc (by simp) _) | (refine Below.setCell ?_ (by simp) _)))⟩
set_option maxRecDepth 100000 in
theorem docBare_19 (n bits high : Int) (text more : ByteArray) (AB AK : Option Addr) (nB cB nK cK : Nat) (w : World) : Calls Tryd.prog 47 #[.agg #[.int .i64 19, .string text, .string more, .int .i64 n, .int .u64 bits, .int .u64 high, .slice AB nB cB, .slice AK nK cK]] w fun e w' => e = .returned (bareV 19 n bits high text more (.slice AB nB cB) (.slice AK nK cK)) ∧ Below w.heap.size w w' := by
  have hu := Tryd.underlying26
  go_enter Tryd.func47, Tryd.ntmps47
  go_wp2
  exact bodyPost_ret (v := .agg #[.int .i64 19, .string text, .string more, .int .i64 n, .int .u64 0, .int .u64 0, .slice AB nB cB, .slice AK nK cK]) (by simp [results, Tryd.results47, go_sem]) rfl ⟨by rfl, by first | exact (((Below.refl _ _).alloc (Nat.le_refl _) _).alloc (by simp) _) | (repeat (first | exact (((Below.refl _ _).alloc (Nat.le_refl _) _).alloc (by simp) _) | (refine Below.setCell ?_ (by simp) _)))⟩
set_option maxRecDepth 100000 in
theorem docBare_other (k : Int) (n bits high : Int) (text more : ByteArray) (AB AK : Option Addr) (nB cB nK cK : Nat) (w : World) (hk : ∀ c ∈ [(1 : Int), (2 : Int), (3 : Int), (4 : Int), (5 : Int), (7 : Int), (8 : Int), (9 : Int), (11 : Int), (12 : Int), (13 : Int), (14 : Int), (15 : Int), (16 : Int), (17 : Int), (18 : Int), (19 : Int)], k ≠ c) : Calls Tryd.prog 47 #[.agg #[.int .i64 k, .string text, .string more, .int .i64 n, .int .u64 bits, .int .u64 high, .slice AB nB cB, .slice AK nK cK]] w fun e w' => e = .returned (bareV k n bits high text more (.slice AB nB cB) (.slice AK nK cK)) ∧ Below w.heap.size w w' := by
  have hu := Tryd.underlying26
  have e1 : (k == 1) = false := beq_eq_false_iff_ne.2 (hk 1 (by simp))
  have e2 : (k == 2) = false := beq_eq_false_iff_ne.2 (hk 2 (by simp))
  have e3 : (k == 3) = false := beq_eq_false_iff_ne.2 (hk 3 (by simp))
  have e4 : (k == 4) = false := beq_eq_false_iff_ne.2 (hk 4 (by simp))
  have e5 : (k == 5) = false := beq_eq_false_iff_ne.2 (hk 5 (by simp))
  have e7 : (k == 7) = false := beq_eq_false_iff_ne.2 (hk 7 (by simp))
  have e8 : (k == 8) = false := beq_eq_false_iff_ne.2 (hk 8 (by simp))
  have e9 : (k == 9) = false := beq_eq_false_iff_ne.2 (hk 9 (by simp))
  have e11 : (k == 11) = false := beq_eq_false_iff_ne.2 (hk 11 (by simp))
  have e12 : (k == 12) = false := beq_eq_false_iff_ne.2 (hk 12 (by simp))
  have e13 : (k == 13) = false := beq_eq_false_iff_ne.2 (hk 13 (by simp))
  have e14 : (k == 14) = false := beq_eq_false_iff_ne.2 (hk 14 (by simp))
  have e15 : (k == 15) = false := beq_eq_false_iff_ne.2 (hk 15 (by simp))
  have e16 : (k == 16) = false := beq_eq_false_iff_ne.2 (hk 16 (by simp))
  have e17 : (k == 17) = false := beq_eq_false_iff_ne.2 (hk 17 (by simp))
  have e18 : (k == 18) = false := beq_eq_false_iff_ne.2 (hk 18 (by simp))
  have e19 : (k == 19) = false := beq_eq_false_iff_ne.2 (hk 19 (by simp))
  have hv : bareV k n bits high text more (.slice AB nB cB) (.slice AK nK cK) = .agg #[.int .i64 k, .string text, .string more, .int .i64 n, .int .u64 bits, .int .u64 high, .slice AB nB cB, .slice AK nK cK] := by
    simp [bareV, bareText, bareMore, bareN, bareBits, bareHigh, bareBy, bareKids, e1, e2, e3, e4, e5, e7, e8, e9, e11, e12, e13, e14, e15, e16, e17, e18, e19]
  rw [hv]
  clear hv hk
  go_enter Tryd.func47, Tryd.ntmps47
  go_wp2
  exact bodyPost_ret (v := .agg #[.int .i64 k, .string text, .string more, .int .i64 n, .int .u64 bits, .int .u64 high, .slice AB nB cB, .slice AK nK cK]) (by simp [results, Tryd.results47, go_sem]) rfl ⟨by rfl, by first | exact (((Below.refl _ _).alloc (Nat.le_refl _) _).alloc (by simp) _) | (repeat (first | exact (((Below.refl _ _).alloc (Nat.le_refl _) _).alloc (by simp) _) | (refine Below.setCell ?_ (by simp) _)))⟩
theorem docBare_calls (k : Int) (n bits high : Int) (text more : ByteArray) (AB AK : Option Addr) (nB cB nK cK : Nat) (w : World) : Calls Tryd.prog 47 #[.agg #[.int .i64 k, .string text, .string more, .int .i64 n, .int .u64 bits, .int .u64 high, .slice AB nB cB, .slice AK nK cK]] w fun e w' => e = .returned (bareV k n bits high text more (.slice AB nB cB) (.slice AK nK cK)) ∧ Below w.heap.size w w' := by
  by_cases h1 : k = 1
  · subst h1; exact docBare_1 n bits high text more AB AK nB cB nK cK w
  by_cases h2 : k = 2
  · subst h2; exact docBare_2 n bits high text more AB AK nB cB nK cK w
  by_cases h3 : k = 3
  · subst h3; exact docBare_3 n bits high text more AB AK nB cB nK cK w
  by_cases h4 : k = 4
  · subst h4; exact docBare_4 n bits high text more AB AK nB cB nK cK w
  by_cases h5 : k = 5
  · subst h5; exact docBare_5 n bits high text more AB AK nB cB nK cK w
  by_cases h7 : k = 7
  · subst h7; exact docBare_7 n bits high text more AB AK nB cB nK cK w
  by_cases h8 : k = 8
  · subst h8; exact docBare_8 n bits high text more AB AK nB cB nK cK w
  by_cases h9 : k = 9
  · subst h9; exact docBare_9 n bits high text more AB AK nB cB nK cK w
  by_cases h11 : k = 11
  · subst h11; exact docBare_11 n bits high text more AB AK nB cB nK cK w
  by_cases h12 : k = 12
  · subst h12; exact docBare_12 n bits high text more AB AK nB cB nK cK w
  by_cases h13 : k = 13
  · subst h13; exact docBare_13 n bits high text more AB AK nB cB nK cK w
  by_cases h14 : k = 14
  · subst h14; exact docBare_14 n bits high text more AB AK nB cB nK cK w
  by_cases h15 : k = 15
  · subst h15; exact docBare_15 n bits high text more AB AK nB cB nK cK w
  by_cases h16 : k = 16
  · subst h16; exact docBare_16 n bits high text more AB AK nB cB nK cK w
  by_cases h17 : k = 17
  · subst h17; exact docBare_17 n bits high text more AB AK nB cB nK cK w
  by_cases h18 : k = 18
  · subst h18; exact docBare_18 n bits high text more AB AK nB cB nK cK w
  by_cases h19 : k = 19
  · subst h19; exact docBare_19 n bits high text more AB AK nB cB nK cK w
  exact docBare_other k n bits high text more AB AK nB cB nK cK w (by
    intro c hc
    simp only [List.mem_cons, List.not_mem_nil, or_false] at hc
    rcases hc with rfl | rfl | rfl | rfl | rfl | rfl | rfl | rfl | rfl | rfl | rfl | rfl | rfl | rfl | rfl | rfl | rfl <;> assumption)

end Go.Proofs.YtndpbbgniflckaaDoor.PBa
