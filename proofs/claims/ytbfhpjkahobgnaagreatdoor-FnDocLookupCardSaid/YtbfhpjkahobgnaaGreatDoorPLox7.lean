import Derived.Test.YtbfhpjkahobgnaaGreatDoorPLox0
import Derived.Test.YtbfhpjkahobgnaaGreatDoorPLox6
namespace Go.Proofs.YtbfhpjkahobgnaaGreatDoor.PLo
open Go.RowKit Go.Proofs.YtbfhpjkahobgnaaGreatDoorW.PrintWords Go.Proofs.YtbfhpjkahobgnaaGreatDoorW.PrintLast Go.Proofs.YtbfhpjkahobgnaaGreatDoorW.PrintMore
attribute [local go_sem] max2_int min2_int max_two min_two max_three min_three max_four min_four
set_option linter.unusedVariables false
set_option maxHeartbeats 8000000
set_option maxRecDepth 100000
set_option linter.unusedSimpArgs false
def laws_docAwake.f (k : Nat)  : Option (Bool) := (impl_Built.f (([(⟨(⟨#[97]⟩ : ByteArray), (⟨16, (⟨#[]⟩ : ByteArray), (⟨#[]⟩ : ByteArray), 7, 0, 0, ([] : List Int), ([] : List (S73))⟩ : S46)⟩ : S73)] : List (S73)))).bind fun t418 => ((impl_Read.f 16 (([7, 0, 0, 0, 9] : List Int))).bind fun bt424 => ((impl_Lookup.f k t418 (([(⟨#[97]⟩ : ByteArray)] : List ByteArray))).bind fun bt444 => (if (strOfNums t418).toList = ([12, 0, 0, 0, 16, 97, 0, 7, 0, 0, 0, 0] : List UInt8) then (if bt424.2.2.2.2.2.2.2.2.2 = true then (if bt424.2.2.2.1 = 7 then (if (bt424.2.2.2.2.2.2.2.2.1.length : Int) = 1 then (if bt444.2.2 = 0 then (if bt444.1 = 16 then (if (bt444.2.1.length : Int) = 4 then (if 11 ≤ (t418.length : Int) then ((impl_Validate.f (t418.take 11)).bind fun t454 => (some (t454 != 0))) else (none)) else (none)) else (none)) else (none)) else (none)) else (none)) else (none)) else (none))))
theorem laws_docAwake.mono : ∀ k, LeO (laws_docAwake.f k ) (laws_docAwake.f (k + 1) ) := by
  intro  k
  unfold laws_docAwake.f
  have m0_ := @impl_Lookup.mono; exact HW.mo
theorem laws_docAwake.calls (ρ : Nat → Addr) (k : Nat)  (r : Bool) (w : World) (hL : Er.LaidE ρ w) (h : laws_docAwake.f k  = some r) :
    Calls Tryz.prog 10 #[] w fun e w' => e = .returned (.bool r) ∧ Below w.heap.size w w' := by
  have hu46 := Tryz.underlying46; have hu73 := Tryz.underlying73; have hu25 := Tryz.underlying25; have HB := Aside0.mk (Below.refl w.heap.size w); have HL_ := Aside0.mk hL; clear hL
  have H : ((impl_Built.f (([(⟨(⟨#[97]⟩ : ByteArray), (⟨16, (⟨#[]⟩ : ByteArray), (⟨#[]⟩ : ByteArray), 7, 0, 0, ([] : List Int), ([] : List (S73))⟩ : S46)⟩ : S73)] : List (S73)))).bind fun t418 => ((impl_Read.f 16 (([7, 0, 0, 0, 9] : List Int))).bind fun bt424 => ((impl_Lookup.f k t418 (([(⟨#[97]⟩ : ByteArray)] : List ByteArray))).bind fun bt444 => (if (strOfNums t418).toList = ([12, 0, 0, 0, 16, 97, 0, 7, 0, 0, 0, 0] : List UInt8) then (if bt424.2.2.2.2.2.2.2.2.2 = true then (if bt424.2.2.2.1 = 7 then (if (bt424.2.2.2.2.2.2.2.2.1.length : Int) = 1 then (if bt444.2.2 = 0 then (if bt444.1 = 16 then (if (bt444.2.1.length : Int) = 4 then (if 11 ≤ (t418.length : Int) then ((impl_Validate.f (t418.take 11)).bind fun t454 => (some (t454 != 0))) else (none)) else (none)) else (none)) else (none)) else (none)) else (none)) else (none)) else (none))))) = some r := h
  clear h; obtain ⟨y415, hy415⟩ : ∃ y_ : List (S73), y_ = (([(⟨(⟨#[97]⟩ : ByteArray), (⟨16, (⟨#[]⟩ : ByteArray), (⟨#[]⟩ : ByteArray), 7, 0, 0, ([] : List Int), ([] : List (S73))⟩ : S46)⟩ : S73)] : List (S73))) := ⟨_, rfl⟩
  replace H : ((impl_Built.f y415).bind fun t418 => ((impl_Read.f 16 (([7, 0, 0, 0, 9] : List Int))).bind fun bt424 => ((impl_Lookup.f k t418 (([(⟨#[97]⟩ : ByteArray)] : List ByteArray))).bind fun bt444 => (if (strOfNums t418).toList = ([12, 0, 0, 0, 16, 97, 0, 7, 0, 0, 0, 0] : List UInt8) then (if bt424.2.2.2.2.2.2.2.2.2 = true then (if bt424.2.2.2.1 = 7 then (if (bt424.2.2.2.2.2.2.2.2.1.length : Int) = 1 then (if bt444.2.2 = 0 then (if bt444.1 = 16 then (if (bt444.2.1.length : Int) = 4 then (if 11 ≤ (t418.length : Int) then ((impl_Validate.f (t418.take 11)).bind fun t454 => (some (t454 != 0))) else (none)) else (none)) else (none)) else (none)) else (none)) else (none)) else (none)) else (none))))) = some r := by (try rw [hy415]); exact HW.rp
  have Ny415 := Aside0.mk hy415; clear hy415; replace H := Option.bind_eq_some_iff.mp H; obtain ⟨t418, A10, H⟩ := H
  replace H : ((impl_Read.f 16 (([7, 0, 0, 0, 9] : List Int))).bind fun bt424 => ((impl_Lookup.f k t418 (([(⟨#[97]⟩ : ByteArray)] : List ByteArray))).bind fun bt444 => (if (strOfNums t418).toList = ([12, 0, 0, 0, 16, 97, 0, 7, 0, 0, 0, 0] : List UInt8) then (if bt424.2.2.2.2.2.2.2.2.2 = true then (if bt424.2.2.2.1 = 7 then (if (bt424.2.2.2.2.2.2.2.2.1.length : Int) = 1 then (if bt444.2.2 = 0 then (if bt444.1 = 16 then (if (bt444.2.1.length : Int) = 4 then (if 11 ≤ (t418.length : Int) then ((impl_Validate.f (t418.take 11)).bind fun t454 => (some (t454 != 0))) else (none)) else (none)) else (none)) else (none)) else (none)) else (none)) else (none)) else (none)))) = some r := H
  have A1 := Aside0.mk A10; clear A10; obtain ⟨y421, hy421⟩ : ∃ y_ : List Int, y_ = (([7, 0, 0, 0, 9] : List Int)) := ⟨_, rfl⟩
  replace H : ((impl_Read.f 16 y421).bind fun bt424 => ((impl_Lookup.f k t418 (([(⟨#[97]⟩ : ByteArray)] : List ByteArray))).bind fun bt444 => (if (strOfNums t418).toList = ([12, 0, 0, 0, 16, 97, 0, 7, 0, 0, 0, 0] : List UInt8) then (if bt424.2.2.2.2.2.2.2.2.2 = true then (if bt424.2.2.2.1 = 7 then (if (bt424.2.2.2.2.2.2.2.2.1.length : Int) = 1 then (if bt444.2.2 = 0 then (if bt444.1 = 16 then (if (bt444.2.1.length : Int) = 4 then (if 11 ≤ (t418.length : Int) then ((impl_Validate.f (t418.take 11)).bind fun t454 => (some (t454 != 0))) else (none)) else (none)) else (none)) else (none)) else (none)) else (none)) else (none)) else (none)))) = some r := by (try rw [hy421]); exact HW.rp
  have Ny421 := Aside0.mk hy421; clear hy421; replace H := Option.bind_eq_some_iff.mp H; obtain ⟨⟨t424, t425, t426, t427, t428, t429, t430, t433, t436, t439⟩, A20, H⟩ := H; replace H : ((impl_Lookup.f k t418 (([(⟨#[97]⟩ : ByteArray)] : List ByteArray))).bind fun bt444 => (if (strOfNums t418).toList = ([12, 0, 0, 0, 16, 97, 0, 7, 0, 0, 0, 0] : List UInt8) then (if t439 = true then (if t427 = 7 then (if (t436.length : Int) = 1 then (if bt444.2.2 = 0 then (if bt444.1 = 16 then (if (bt444.2.1.length : Int) = 4 then (if 11 ≤ (t418.length : Int) then ((impl_Validate.f (t418.take 11)).bind fun t454 => (some (t454 != 0))) else (none)) else (none)) else (none)) else (none)) else (none)) else (none)) else (none)) else (none))) = some r := H; have A2 := Aside0.mk A20; clear A20; obtain ⟨y441, hy441⟩ : ∃ y_ : List ByteArray, y_ = (([(⟨#[97]⟩ : ByteArray)] : List ByteArray)) := ⟨_, rfl⟩
  replace H : ((impl_Lookup.f k t418 y441).bind fun bt444 => (if (strOfNums t418).toList = ([12, 0, 0, 0, 16, 97, 0, 7, 0, 0, 0, 0] : List UInt8) then (if t439 = true then (if t427 = 7 then (if (t436.length : Int) = 1 then (if bt444.2.2 = 0 then (if bt444.1 = 16 then (if (bt444.2.1.length : Int) = 4 then (if 11 ≤ (t418.length : Int) then ((impl_Validate.f (t418.take 11)).bind fun t454 => (some (t454 != 0))) else (none)) else (none)) else (none)) else (none)) else (none)) else (none)) else (none)) else (none))) = some r := by (try rw [hy441]); exact HW.rp
  have Ny441 := Aside0.mk hy441; clear hy441; replace H := Option.bind_eq_some_iff.mp H; obtain ⟨⟨t444, t445, t448⟩, A30, H⟩ := H; replace H : (if (strOfNums t418).toList = ([12, 0, 0, 0, 16, 97, 0, 7, 0, 0, 0, 0] : List UInt8) then (if t439 = true then (if t427 = 7 then (if (t436.length : Int) = 1 then (if t448 = 0 then (if t444 = 16 then (if (t445.length : Int) = 4 then (if 11 ≤ (t418.length : Int) then ((impl_Validate.f (t418.take 11)).bind fun t454 => (some (t454 != 0))) else (none)) else (none)) else (none)) else (none)) else (none)) else (none)) else (none)) else (none)) = some r := H; have A3 := Aside0.mk A30; clear A30
  by_cases c4 : (strOfNums t418).toList = ([12, 0, 0, 0, 16, 97, 0, 7, 0, 0, 0, 0] : List UInt8)
  rotate_left
  · rw [if_neg c4] at H
    exact absurd H (by simp)
  rw [if_pos c4] at H; have c4b0 : ((strOfNums t418).toList == ([12, 0, 0, 0, 16, 97, 0, 7, 0, 0, 0, 0] : List UInt8)) = true := beq_iff_eq.mpr c4; have c4b1 : ((strOfNums t418).toList != ([12, 0, 0, 0, 16, 97, 0, 7, 0, 0, 0, 0] : List UInt8)) = false := bne_eq_false_iff_eq.mpr c4; clear c4
  by_cases c5 : t439 = true
  rotate_left
  · replace c5 := Bool.eq_false_iff.mpr c5
    subst c5
    have H1 : (none) = some r := by rw [if_neg (show ¬ (false = true) by decide)] at H; exact H
    clear H; have H := H1; clear H1
    exact absurd H (by simp)
  subst c5
  have H1 : (if t427 = 7 then (if (t436.length : Int) = 1 then (if t448 = 0 then (if t444 = 16 then (if (t445.length : Int) = 4 then (if 11 ≤ (t418.length : Int) then ((impl_Validate.f (t418.take 11)).bind fun t454 => (some (t454 != 0))) else (none)) else (none)) else (none)) else (none)) else (none)) else (none)) = some r := by rw [if_pos rfl] at H; exact H
  clear H; have H := H1; clear H1
  by_cases c6 : t427 = 7
  rotate_left
  · rw [if_neg c6] at H
    exact absurd H (by simp)
  rw [if_pos c6] at H; have c6b0 : (t427 == 7) = true := beq_iff_eq.mpr c6; have c6b1 : (t427 != 7) = false := bne_eq_false_iff_eq.mpr c6; clear c6
  by_cases c7 : (t436.length : Int) = 1
  rotate_left
  · rw [if_neg c7] at H
    exact absurd H (by simp)
  rw [if_pos c7] at H; have c7b0 : ((t436.length : Int) == 1) = true := beq_iff_eq.mpr c7; have c7b1 : ((t436.length : Int) != 1) = false := bne_eq_false_iff_eq.mpr c7; clear c7
  by_cases c8 : t448 = 0
  rotate_left
  · rw [if_neg c8] at H
    exact absurd H (by simp)
  rw [if_pos c8] at H; have c8b0 : (t448 == 0) = true := beq_iff_eq.mpr c8; have c8b1 : (t448 != 0) = false := bne_eq_false_iff_eq.mpr c8; clear c8
  by_cases c9 : t444 = 16
  rotate_left
  · rw [if_neg c9] at H
    exact absurd H (by simp)
  rw [if_pos c9] at H; have c9b0 : (t444 == 16) = true := beq_iff_eq.mpr c9; have c9b1 : (t444 != 16) = false := bne_eq_false_iff_eq.mpr c9; clear c9
  by_cases c10 : (t445.length : Int) = 4
  rotate_left
  · rw [if_neg c10] at H
    exact absurd H (by simp)
  rw [if_pos c10] at H; have c10b0 : ((t445.length : Int) == 4) = true := beq_iff_eq.mpr c10; have c10b1 : ((t445.length : Int) != 4) = false := bne_eq_false_iff_eq.mpr c10; clear c10
  by_cases c11 : 11 ≤ (t418.length : Int)
  rotate_left
  · rw [if_neg c11] at H
    exact absurd H (by simp)
  rw [if_pos c11] at H; have c11b0 := eq_true c11; have c11b1 : decide (11 ≤ (t418.length : Int)) = true := decide_eq_true c11; clear c11; obtain ⟨y450, hy450⟩ : ∃ y_ : List Int, y_ = (t418.take 11) := ⟨_, rfl⟩
  replace H : ((impl_Validate.f y450).bind fun t454 => (some (t454 != 0))) = some r := by (try rw [hy450]); exact HW.rp
  have Ny450 := Aside0.mk hy450; clear hy450; replace H := Option.bind_eq_some_iff.mp H; obtain ⟨t454, A120, H⟩ := H; replace H : (some (t454 != 0)) = some r := H; have A12 := Aside0.mk A120; clear A120
  focus
    obtain rfl := Option.some.inj H
    go_enter Tryz.func10, Tryz.ntmps10
    go_wp2_with (first | ((with_reducible refine gate_dst (N := 9) rfl ?_); (try (refine gate_guard (by rfl) ?_; dsimp only)); refine Kd.R_lit k73 _ 73 ?hg (N := 9) ?hd (xs := ([(⟨(⟨#[97]⟩ : ByteArray), (⟨16, (⟨#[]⟩ : ByteArray), (⟨#[]⟩ : ByteArray), 7, 0, 0, ([] : List Int), ([] : List (S73))⟩ : S46)⟩ : S73)] : List (S73))) (inner := [.string (⟨#[97]⟩ : ByteArray), .int .i64 16, .string (⟨#[]⟩ : ByteArray), .string (⟨#[]⟩ : ByteArray), .int .i64 7, .int .u64 0, .int .u64 0, .slice none 0 0, .slice none 0 0]) (ok := fun _ => True) (okp := fun _ => True) ?hr ?hp (fun _ hk => hk) trivial (Below.refl _ _) (Nat.le_refl _) (by simp) ?_; (case hd => rfl); (case hg => rfl); (case hr => first | (go_simp; done) | (go_simp; rfl)); (case hp => exact (Reps.c9 (show Kd.M k73 _ _ _ (⟨(⟨#[97]⟩ : ByteArray), (⟨16, (⟨#[]⟩ : ByteArray), (⟨#[]⟩ : ByteArray), 7, 0, 0, ([] : List Int), ([] : List (S73))⟩ : S46)⟩ : S73) [.string (⟨#[97]⟩ : ByteArray), .int .i64 16, .string (⟨#[]⟩ : ByteArray), .string (⟨#[]⟩ : ByteArray), .int .i64 7, .int .u64 0, .int .u64 0, .slice none 0 0, .slice none 0 0] from (k73_mkM _ _ _ (⟨(⟨#[97]⟩ : ByteArray), (⟨16, (⟨#[]⟩ : ByteArray), (⟨#[]⟩ : ByteArray), 7, 0, 0, ([] : List Int), ([] : List (S73))⟩ : S46)⟩ : S73) (Kd.R_nil _ _ _ _ _) (Kd.R_nil _ _ _ _ _))) (Reps.none _ _))); intro v416 w13 ho14 hb hg_ hnew_; clear hg_ hnew_; (first | rw [← Ny415.out] at ho14 | (simp only [Int.reduceToNat] at ho14; rw [← Ny415.out] at ho14)); have HO417 := Aside0.mk (Kd.R_lower ho14 (below_size HW.zb)); replace HB := Aside0.mk (below_step HW.zb hb); clear hb ho14; obtain ⟨Ao15, co15, eo15⟩ := Kd.R_slice HO417.out; subst eo15) | ((with_reducible refine gate_callee (f := 27) rfl ?_); refine HW.gz (some 10) rfl rfl Tryz.func27 (by kernel_rfl) rfl #[.slice Ao15 y415.length co15] rfl ?_; (with_reducible refine (impl_Built.calls _ _ y415 t418 _ ?side1 ?side2 A1.out).mono ?_); (case side1 => repeat (first | exact (Kd.R_reads' HO417.out).2.2 | (with_reducible refine Kd.C_alloc ?_ _) | (with_reducible refine Kd.C_drewN ?_ _) | (with_reducible refine Kd.C_drew ?_))); (case side2 => exact (Kd.R_reads' HO417.out).2.1); rintro e w16 ⟨v419, rfl, ho0, hb⟩; refine ⟨_, rfl, ?_⟩; have HO420 := Aside0.mk (Kd.R_lower ho0 (below_size HW.zb)); replace HB := Aside0.mk (below_step HW.zb hb); (try clear hb); (try clear ho0)) | ((with_reducible refine gate_dst (N := 12) rfl ?_); (try (refine gate_guard (by rfl) ?_; dsimp only)); refine Kd.R_lit (Kd.int .u8) _ 5 ?hg (N := 12) ?hd (xs := ([7, 0, 0, 0, 9] : List Int)) (inner := [.int .u8 7, .int .u8 0, .int .u8 0, .int .u8 0, .int .u8 9]) (ok := fun _ => True) (okp := fun _ => True) ?hr ?hp (fun _ hk => hk) trivial (Below.refl _ _) (Nat.le_refl _) (by simp) ?_; (case hd => rfl); (case hg => rfl); (case hr => first | (go_simp; done) | (go_simp; rfl)); (case hp => exact (Reps.one (show Kd.M (Kd.int .u8) _ _ _ 7 [.int .u8 7] from rfl) (Reps.one (show Kd.M (Kd.int .u8) _ _ _ 0 [.int .u8 0] from rfl) (Reps.one (show Kd.M (Kd.int .u8) _ _ _ 0 [.int .u8 0] from rfl) (Reps.one (show Kd.M (Kd.int .u8) _ _ _ 0 [.int .u8 0] from rfl) (Reps.one (show Kd.M (Kd.int .u8) _ _ _ 9 [.int .u8 9] from rfl) (Reps.none _ _))))))); intro v422 w17 ho18 hb hg_ hnew_; clear hg_ hnew_; (first | rw [← Ny421.out] at ho18 | (simp only [Int.reduceToNat] at ho18; rw [← Ny421.out] at ho18)); have n0_ := Aside0.mk (Kd.R_below (HW.zR HO420.out) hb); have n1_ := Aside0.mk (Kd.R_lower ho18 (below_size HW.zb)); have n2_ := Aside0.mk (below_step HW.zb hb); clear HO420; clear HB; (try clear HO417); have HO420 := n0_; have HO423 := n1_; have HB := n2_; clear n0_ n1_ n2_; clear hb ho18; obtain ⟨Ao19, co19, eo19⟩ := Kd.R_slice HO423.out; subst eo19) | ((with_reducible refine gate_callee (f := 28) rfl ?_); refine HW.gz (some 13) rfl rfl Tryz.func28 (by kernel_rfl) rfl #[.int .i64 16, .slice Ao19 y421.length co19] rfl ?_; (with_reducible refine (impl_Read.calls 16 _ _ y421 t424 t425 t426 t427 t428 t429 t430 t433 t436 true _ ?side1 ?side2 A2.out).mono ?_); (case side1 => repeat (first | exact (Kd.R_reads' HO423.out).2.2 | (with_reducible refine Kd.C_alloc ?_ _) | (with_reducible refine Kd.C_drewN ?_ _) | (with_reducible refine Kd.C_drew ?_))); (case side2 => exact (Kd.R_reads' HO423.out).2.1); rintro e w20 ⟨v431, v434, v437, rfl, ho0, ho1, ho2, hb⟩; refine ⟨_, rfl, ?_⟩; replace HO420 := Aside0.mk (Kd.R_below (HW.zR HO420.out) hb); have HO432 := Aside0.mk (Kd.R_lower ho0 (below_size HW.zb)); have HO435 := Aside0.mk (Kd.R_lower ho1 (below_size HW.zb)); have HO438 := Aside0.mk (Kd.R_lower ho2 (below_size HW.zb)); replace HB := Aside0.mk (below_step HW.zb hb); (try clear hb); (try clear ho0); (try clear ho1); (try clear ho2)) | ((with_reducible refine gate_dst (N := 2) rfl ?_); (try (refine gate_guard (by rfl) ?_; dsimp only)); refine box_event ?hg (N := 2) ?hd (cs := #[.int .i64 0, .string (⟨#[]⟩ : ByteArray), .string (⟨#[]⟩ : ByteArray), .int .i64 0, .int .u64 0, .int .u64 0, .slice none 0 0, .slice none 0 0]) (t := 46) ?hr ?_; (case hd => rfl); (case hg => rfl); (case hr => first | (go_simp; done) | (go_simp; rfl)); intro gb440 hg w21 hbox hb; have n0_ := Aside0.mk (Kd.R_below (HW.zR HO420.out) hb); have n1_ := Aside0.mk (Kd.R_below (HW.zR HO432.out) hb); have n2_ := Aside0.mk (Kd.R_below (HW.zR HO435.out) hb); have n3_ := Aside0.mk (Kd.R_below (HW.zR HO438.out) hb); have n4_ := Aside0.mk (below_step HW.zb hb); have n5_ := Aside0.mk (hbox); have n6_ := Aside0.mk ((by rw [hg]; exact (below_size HW.zb) : w.heap.size ≤ gb440)); have n7_ := Aside0.mk ((by rw [hg]; exact (below_size HW.zb) : w.heap.size ≤ gb440)); clear HO420; clear HO432; clear HO435; clear HO438; clear HB; (try clear HO423); have HO420 := n0_; have HO432 := n1_; have HO435 := n2_; have HO438 := n3_; have HB := n4_; have BK440 := n5_; have GW440 := n6_; have GE440 := n7_; clear n0_ n1_ n2_ n3_ n4_ n5_ n6_ n7_; clear hb hbox hg; obtain ⟨hcz22_0, hcz22_1, hcz22_2, hcz22_3, hcz22_4, hcz22_5, hcz22_6, hcz22_7, hfz23_0, hfz23_1, hfz23_2, hfz23_3, hfz23_4, hfz23_5, hfz23_6, hfz23_7⟩ := HW.k8f BK440.out; obtain ⟨Ao24, co24, eo24⟩ := Kd.R_slice HO432.out; subst eo24; obtain ⟨Ao25, co25, eo25⟩ := Kd.R_slice HO435.out; subst eo25) | ((with_reducible refine gate_dst (N := 19) rfl ?_); (try (refine gate_guard (by rfl) ?_; dsimp only)); refine Kd.R_lit Kd.string _ 9 ?hg (N := 19) ?hd (xs := ([(⟨#[97]⟩ : ByteArray)] : List ByteArray)) (inner := [.string (⟨#[97]⟩ : ByteArray)]) (ok := fun _ => True) (okp := fun _ => True) ?hr ?hp (fun _ hk => hk) trivial (Below.refl _ _) (Nat.le_refl _) (by simp) ?_; (case hd => rfl); (case hg => rfl); (case hr => first | (go_simp; done) | (go_simp; rfl)); (case hp => exact (Reps.one (show Kd.M Kd.string _ _ _ (⟨#[97]⟩ : ByteArray) [.string (⟨#[97]⟩ : ByteArray)] from rfl) (Reps.none _ _))); intro v442 w26 ho27 hb hg_ hnew_; clear hg_ hnew_; (first | rw [← Ny441.out] at ho27 | (simp only [Int.reduceToNat] at ho27; rw [← Ny441.out] at ho27)); replace HO420 := Aside0.mk (Kd.R_below (by (with_reducible repeat (first | apply Kd.R_alloc | apply Kd.R_drewN | apply Kd.R_drew)); exact (Kd.R_mono (Kd.R_far (p := ⟨gb440, 7, none⟩) (Kd.R_far (p := ⟨gb440, 6, none⟩) (Kd.R_far (p := ⟨gb440, 5, none⟩) (Kd.R_far (p := ⟨gb440, 4, none⟩) (Kd.R_far (p := ⟨gb440, 3, none⟩) (Kd.R_far (p := ⟨gb440, 2, none⟩) (Kd.R_far (p := ⟨gb440, 1, none⟩) (Kd.R_far (p := ⟨gb440, 0, none⟩) (Kd.R_types HO420.out BK440.out (by decide)) (fun _ hk => hk.2) (.int .i64 t424)) (fun _ hk => hk.2) (.string t425)) (fun _ hk => hk.2) (.string t426)) (fun _ hk => hk.2) (.int .i64 t427)) (fun _ hk => hk.2) (.int .u64 t428)) (fun _ hk => hk.2) (.int .u64 t429)) (fun _ hk => hk.2) (.slice Ao24 t430.length co24)) (fun _ hk => hk.2) (.slice Ao25 t433.length co25)) (fun _ h_ => h_.1))) hb); replace HO438 := Aside0.mk (Kd.R_below (by (with_reducible repeat (first | apply Kd.R_alloc | apply Kd.R_drewN | apply Kd.R_drew)); exact (Kd.R_mono (Kd.R_far (p := ⟨gb440, 7, none⟩) (Kd.R_far (p := ⟨gb440, 6, none⟩) (Kd.R_far (p := ⟨gb440, 5, none⟩) (Kd.R_far (p := ⟨gb440, 4, none⟩) (Kd.R_far (p := ⟨gb440, 3, none⟩) (Kd.R_far (p := ⟨gb440, 2, none⟩) (Kd.R_far (p := ⟨gb440, 1, none⟩) (Kd.R_far (p := ⟨gb440, 0, none⟩) (Kd.R_types HO438.out BK440.out (by decide)) (fun _ hk => hk.2) (.int .i64 t424)) (fun _ hk => hk.2) (.string t425)) (fun _ hk => hk.2) (.string t426)) (fun _ hk => hk.2) (.int .i64 t427)) (fun _ hk => hk.2) (.int .u64 t428)) (fun _ hk => hk.2) (.int .u64 t429)) (fun _ hk => hk.2) (.slice Ao24 t430.length co24)) (fun _ hk => hk.2) (.slice Ao25 t433.length co25)) (fun _ h_ => h_.1))) hb); have HO443 := Aside0.mk (Kd.R_lower ho27 (below_size HW.zb)); replace BK440 := Aside0.mk (blk_below (g := gb440) (o := .cells #[.int .i64 t424, .string t425, .string t426, .int .i64 t427, .int .u64 t428, .int .u64 t429, .slice Ao24 t430.length co24, .slice Ao25 t433.length co25] 46 (0, 0)) (by (with_reducible repeat (first | refine blk_drewN ?_ _ | refine blk_drew ?_ | refine blk_alloc ?_ _)); refine blk_put (cs := #[.int .i64 t424, .string t425, .string t426, .int .i64 t427, .int .u64 t428, .int .u64 t429, .slice Ao24 t430.length co24, .slice none 0 0]) ?_ 7 _ rfl; (with_reducible repeat (first | refine blk_drewN ?_ _ | refine blk_drew ?_ | refine blk_alloc ?_ _)); refine blk_put (cs := #[.int .i64 t424, .string t425, .string t426, .int .i64 t427, .int .u64 t428, .int .u64 t429, .slice none 0 0, .slice none 0 0]) ?_ 6 _ rfl; (with_reducible repeat (first | refine blk_drewN ?_ _ | refine blk_drew ?_ | refine blk_alloc ?_ _)); refine blk_put (cs := #[.int .i64 t424, .string t425, .string t426, .int .i64 t427, .int .u64 t428, .int .u64 0, .slice none 0 0, .slice none 0 0]) ?_ 5 _ rfl; (with_reducible repeat (first | refine blk_drewN ?_ _ | refine blk_drew ?_ | refine blk_alloc ?_ _)); refine blk_put (cs := #[.int .i64 t424, .string t425, .string t426, .int .i64 t427, .int .u64 0, .int .u64 0, .slice none 0 0, .slice none 0 0]) ?_ 4 _ rfl; (with_reducible repeat (first | refine blk_drewN ?_ _ | refine blk_drew ?_ | refine blk_alloc ?_ _)); refine blk_put (cs := #[.int .i64 t424, .string t425, .string t426, .int .i64 0, .int .u64 0, .int .u64 0, .slice none 0 0, .slice none 0 0]) ?_ 3 _ rfl; (with_reducible repeat (first | refine blk_drewN ?_ _ | refine blk_drew ?_ | refine blk_alloc ?_ _)); refine blk_put (cs := #[.int .i64 t424, .string t425, .string (⟨#[]⟩ : ByteArray), .int .i64 0, .int .u64 0, .int .u64 0, .slice none 0 0, .slice none 0 0]) ?_ 2 _ rfl; (with_reducible repeat (first | refine blk_drewN ?_ _ | refine blk_drew ?_ | refine blk_alloc ?_ _)); refine blk_put (cs := #[.int .i64 t424, .string (⟨#[]⟩ : ByteArray), .string (⟨#[]⟩ : ByteArray), .int .i64 0, .int .u64 0, .int .u64 0, .slice none 0 0, .slice none 0 0]) ?_ 1 _ rfl; (with_reducible repeat (first | refine blk_drewN ?_ _ | refine blk_drew ?_ | refine blk_alloc ?_ _)); refine blk_put (cs := #[.int .i64 0, .string (⟨#[]⟩ : ByteArray), .string (⟨#[]⟩ : ByteArray), .int .i64 0, .int .u64 0, .int .u64 0, .slice none 0 0, .slice none 0 0]) ?_ 0 _ rfl; exact HW.zB BK440.out) hb); replace HB := Aside0.mk (below_step HW.zb hb); clear hb ho27; obtain ⟨Ao28, co28, eo28⟩ := Kd.R_slice HO420.out; subst eo28; obtain ⟨Ao29, co29, eo29⟩ := Kd.R_slice HO443.out; subst eo29) | ((with_reducible refine gate_callee (f := 18) rfl ?_); refine HW.gz (some 20) rfl rfl Tryz.func18 (by kernel_rfl) rfl #[.slice Ao28 t418.length co28, .slice Ao29 y441.length co29] rfl ?_; (with_reducible refine (impl_Lookup.calls ρ k _ _ t418 _ _ y441 t444 t445 t448 _ ?aLD ?side1 ?side2 ?side3 ?side4 A3.out).mono ?_); (case aLD => exact Er.LaidE.below HL_.out (by repeat (first | (with_reducible first | exact HB.out | apply below_alloc | apply pw_below_drewN | apply below_drew1 | refine below_set ?_ GE440.out | refine below_set ?_ GE449.out) | exact HB.out))); (case side1 => repeat (first | exact (Kd.R_reads' HO420.out).2.2 | (with_reducible refine Kd.C_alloc ?_ _) | (with_reducible refine Kd.C_drewN ?_ _) | (with_reducible refine Kd.C_drew ?_))); (case side2 => exact (Kd.R_reads' HO420.out).2.1); (case side3 => repeat (first | exact (Kd.R_reads' HO443.out).2.2 | (with_reducible refine Kd.C_alloc ?_ _) | (with_reducible refine Kd.C_drewN ?_ _) | (with_reducible refine Kd.C_drew ?_))); (case side4 => exact (Kd.R_reads' HO443.out).2.1); rintro e w30 ⟨v446, rfl, ho0, hb⟩; refine ⟨_, rfl, ?_⟩; have n0_ := Aside0.mk (Kd.R_below (HW.zR HO420.out) hb); have n1_ := Aside0.mk (Kd.R_below (HW.zR HO438.out) hb); have n2_ := Aside0.mk (Kd.R_below (HW.zR HO443.out) hb); have n3_ := Aside0.mk (Kd.R_lower ho0 (below_size HW.zb)); have n4_ := Aside0.mk (blk_below (HW.zB BK440.out) hb); have n5_ := Aside0.mk (below_step HW.zb hb); clear HO420; clear HO438; clear HO443; clear BK440; clear HB; (try clear HO432); (try clear HO435); have HO420 := n0_; have HO438 := n1_; have HO443 := n2_; have HO447 := n3_; have BK440 := n4_; have HB := n5_; clear n0_ n1_ n2_ n3_ n4_ n5_; (try clear hb); (try clear ho0)) | ((with_reducible refine gate_dst (N := 5) rfl ?_); (try (refine gate_guard (by rfl) ?_; dsimp only)); refine box_event ?hg (N := 5) ?hd (cs := #[.int .i64 0, .slice none 0 0]) (t := 25) ?hr ?_; (case hd => rfl); (case hg => rfl); (case hr => first | (go_simp; done) | (go_simp; rfl)); intro gb449 hg w31 hbox hb; have n0_ := Aside0.mk (Kd.R_below (HW.zR HO420.out) hb); have n1_ := Aside0.mk (Kd.R_below (HW.zR HO438.out) hb); have n2_ := Aside0.mk (Kd.R_below (HW.zR HO447.out) hb); have n3_ := Aside0.mk (blk_below (HW.zB BK440.out) hb); have n4_ := Aside0.mk (below_step HW.zb hb); have n5_ := Aside0.mk (hbox); have n6_ := Aside0.mk ((by rw [hg]; exact (below_size HW.zb) : w.heap.size ≤ gb449)); have n7_ := Aside0.mk ((by rw [hg]; exact (below_size HW.zb) : w.heap.size ≤ gb449)); have n8_ := Aside0.mk ((by rw [hg]; exact Nat.ne_of_lt (blk_lt (g := gb440) (o := .cells #[.int .i64 t424, .string t425, .string t426, .int .i64 t427, .int .u64 t428, .int .u64 t429, .slice Ao24 t430.length co24, .slice Ao25 t433.length co25] 46 (0, 0)) (HW.zB BK440.out)) : gb440 ≠ gb449)); have n9_ := Aside0.mk ((by rw [hg]; exact Nat.ne_of_gt (blk_lt (g := gb440) (o := .cells #[.int .i64 t424, .string t425, .string t426, .int .i64 t427, .int .u64 t428, .int .u64 t429, .slice Ao24 t430.length co24, .slice Ao25 t433.length co25] 46 (0, 0)) (HW.zB BK440.out)) : gb449 ≠ gb440)); clear HO420; clear HO438; clear HO447; clear BK440; clear HB; (try clear HO443); have HO420 := n0_; have HO438 := n1_; have HO447 := n2_; have BK440 := n3_; have HB := n4_; have BK449 := n5_; have GW449 := n6_; have GE449 := n7_; have NB440_449 := n8_; have NB449_440 := n9_; clear n0_ n1_ n2_ n3_ n4_ n5_ n6_ n7_ n8_ n9_; clear hb hbox hg; have hnb32 := NB449_440.out; have hnc32 := NB440_449.out; obtain ⟨hcz33_0, hcz33_1, hfz34_0, hfz34_1⟩ := HW.k2f BK449.out; obtain ⟨Ao35, co35, eo35⟩ := Kd.R_slice HO447.out; subst eo35) | ((with_reducible refine gate_store (t := 25) (p := 5) rfl ?_); refine store_event (t := 25) (p := 5) (v := ?vo_w36) (w1 := ((w31.setCell ⟨gb449, 0, none⟩ (.int .i64 t444)).setCell ⟨gb449, 1, none⟩ (.slice Ao35 t445.length co35))) ?hg ?ho ?hn ?hr ?_; (case ho => rfl); (case hg => rfl); (case hn => rfl); (case hr => first | (go_simp; done) | (go_simp; rfl)); intro w36 hw; have n0_ : Aside0 (Kd.R (Kd.int .u8) 5 w36 w.heap.size (fun _ => True) (.slice Ao28 t418.length co28) t418) := ⟨(by rw [hw]; exact (by (with_reducible repeat (first | apply Kd.R_alloc | apply Kd.R_drewN | apply Kd.R_drew)); exact Kd.R_mono (Kd.R_far (p := ⟨gb449, 1, none⟩) (Kd.R_far (p := ⟨gb449, 0, none⟩) (Kd.R_types HO420.out BK449.out (by decide)) (fun _ hk => hk.2) (.int .i64 t444)) (fun _ hk => hk.2) (.slice Ao35 t445.length co35)) (fun _ hk => trivial)))⟩; have n1_ : Aside0 (Kd.R (Kd.int .u8) 5 w36 w.heap.size (fun _ => True) v437 t436) := ⟨(by rw [hw]; exact (by (with_reducible repeat (first | apply Kd.R_alloc | apply Kd.R_drewN | apply Kd.R_drew)); exact Kd.R_mono (Kd.R_far (p := ⟨gb449, 1, none⟩) (Kd.R_far (p := ⟨gb449, 0, none⟩) (Kd.R_types HO438.out BK449.out (by decide)) (fun _ hk => hk.2) (.int .i64 t444)) (fun _ hk => hk.2) (.slice Ao35 t445.length co35)) (fun _ hk => trivial)))⟩; have n2_ : Aside0 (Kd.R (Kd.int .u8) 5 w36 w.heap.size (fun _ => True) (.slice Ao35 t445.length co35) t445) := ⟨(by rw [hw]; exact (by (with_reducible repeat (first | apply Kd.R_alloc | apply Kd.R_drewN | apply Kd.R_drew)); exact Kd.R_mono (Kd.R_far (p := ⟨gb449, 1, none⟩) (Kd.R_far (p := ⟨gb449, 0, none⟩) (Kd.R_types HO447.out BK449.out (by decide)) (fun _ hk => hk.2) (.int .i64 t444)) (fun _ hk => hk.2) (.slice Ao35 t445.length co35)) (fun _ hk => trivial)))⟩; have n3_ : Aside0 (w36.heap[gb440]? = some (.cells #[.int .i64 t424, .string t425, .string t426, .int .i64 t427, .int .u64 t428, .int .u64 t429, .slice Ao24 t430.length co24, .slice Ao25 t433.length co25] 46 (0, 0))) := ⟨(by rw [hw]; exact (by (with_reducible repeat (first | refine blk_drewN ?_ _ | refine blk_drew ?_ | refine blk_alloc ?_ _)); refine blk_far ?_ NB440_449.out _; (with_reducible repeat (first | refine blk_drewN ?_ _ | refine blk_drew ?_ | refine blk_alloc ?_ _)); refine blk_far ?_ NB440_449.out _; exact HW.zB BK440.out))⟩; have n4_ : Aside0 (w36.heap[gb449]? = some (.cells #[.int .i64 t444, .slice Ao35 t445.length co35] 25 (0, 0))) := ⟨(by rw [hw]; exact (by (with_reducible repeat (first | refine blk_drewN ?_ _ | refine blk_drew ?_ | refine blk_alloc ?_ _)); refine blk_put (cs := #[.int .i64 t444, .slice none 0 0]) ?_ 1 _ rfl; (with_reducible repeat (first | refine blk_drewN ?_ _ | refine blk_drew ?_ | refine blk_alloc ?_ _)); refine blk_put (cs := #[.int .i64 0, .slice none 0 0]) ?_ 0 _ rfl; exact HW.zB BK449.out))⟩; have n5_ : Aside0 (Below w.heap.size w w36) := ⟨(by rw [hw]; exact HW.zb)⟩; clear hw; clear HO420; clear HO438; clear HO447; clear BK440; clear BK449; clear HB; have HO420 := n0_; have HO438 := n1_; have HO447 := n2_; have BK440 := n3_; have BK449 := n4_; have HB := n5_; clear n0_ n1_ n2_ n3_ n4_ n5_; have hcv37 := own_string (P := Tryz.prog) Tryz.underlying22 Tryz.underlying5 Tryz.underlying9 (Kd.own_of_R HO420.out); obtain ⟨hcz38_0, hcz38_1, hcz38_2, hcz38_3, hcz38_4, hcz38_5, hcz38_6, hcz38_7⟩ := HW.k8 BK440.out; obtain ⟨Ao39, co39, eo39⟩ := Kd.R_slice HO438.out; subst eo39; obtain ⟨hcz40_0, hcz40_1⟩ := HW.k2 BK449.out; have q41 : (11 : Int) ≤ ((t418.length : Int) : Int) := HW.od; obtain ⟨i041, hi041, _, hsz41, _⟩ := info_parts info5; have hroom41 : t418.length ≤ co28 := (Kd.R_reads' HO420.out).2.1; have hC41 : Kd.C (Kd.int .u8) _ Ao28 t418.length t418 := (Kd.R_reads' HO420.out).2.2; have hcut41 := cut_to (P := Tryz.prog) 22 5 .i64 Tryz.underlying22 hi041 Ao28 t418.length co28 11 (by omega) q41 hroom41; have hr41 := Kd.C_take (m := 11) hC41 (by omega); have hy41 : y450.length = (11 : Int).toNat := (by rw [Ny450.out, List.length_take]; omega); rw [← Ny450.out] at hr41; rw [← hy41] at hcut41; have HR453 := Aside0.mk hr41; have HC453 := Aside0.mk (show y450.length ≤ co28 from by omega); clear hr41 hC41 hroom41 hi041 hsz41; have KY41 := Aside0.mk hy41; clear hy41; have KL41 := Aside0.mk (show 11 ≤ t418.length from by omega); replace q41 := eq_true q41) | (go_at_call 29; (with_reducible refine (impl_Validate.calls _ _ y450 t454 _ ?side1 ?side2 A12.out).mono ?_); (case side1 => repeat (first | exact (by repeat (first | (with_reducible exact HR453.out) | (with_reducible refine Kd.C_alloc ?_ _) | (with_reducible refine Kd.C_drewN ?_ _) | (with_reducible refine Kd.C_drew ?_) | exact HR453.out)) | (with_reducible refine Kd.C_alloc ?_ _) | (with_reducible refine Kd.C_drewN ?_ _) | (with_reducible refine Kd.C_drew ?_))); (case side2 => exact HC453.out); rintro e w42 ⟨rfl, hb⟩; have n0_ := Aside0.mk (Kd.R_below (HW.zR HO420.out) hb); have n1_ := Aside0.mk (Kd.C_below (by repeat (first | (with_reducible exact HR453.out) | (with_reducible refine Kd.C_alloc ?_ _) | (with_reducible refine Kd.C_drewN ?_ _) | (with_reducible refine Kd.C_drew ?_) | exact HR453.out)) hb); have n2_ := Aside0.mk (below_step HW.zb hb); clear HO420; clear HR453; clear HB; (try clear BK440); (try clear HO438); (try clear BK449); (try clear HO447); have HO420 := n0_; have HR453 := n1_; have HB := n2_; clear n0_ n1_ n2_; (try clear hb)))
    go_ret
    exact ⟨rfl, HW.zb⟩
def laws_docSameRaw.f (a0_0 : Int) (l0_1 : List Int) (a1 : Int) (l2 : List Int) : Option (Bool) := if a0_0 = a1 then (some ((strOfNums l0_1).toList == (strOfNums l2).toList)) else (some false)
theorem laws_docSameRaw.calls (a0_0 : Int) (A0_1 : Option Addr) (c0_1 : Nat) (l0_1 : List Int) (a1 : Int) (A2 : Option Addr) (c2 : Nat) (l2 : List Int) (r : Bool) (w : World) (hr0_1 : Kd.C (Kd.int .u8) w A0_1 l0_1.length l0_1) (hc0_1 : l0_1.length ≤ c0_1) (hr2 : Kd.C (Kd.int .u8) w A2 l2.length l2) (hc2 : l2.length ≤ c2) (h : laws_docSameRaw.f a0_0 l0_1 a1 l2 = some r) :
    Calls Tryz.prog 12 #[.agg #[.int .i64 a0_0, .slice A0_1 l0_1.length c0_1], .int .i64 a1, .slice A2 l2.length c2] w fun e w' => e = .returned (.bool r) ∧ Below w.heap.size w w' := by
  have hu25 := Tryz.underlying25; have HR0_1 := Aside0.mk hr0_1; have HC0_1 := Aside0.mk hc0_1; clear hr0_1 hc0_1; have HR2 := Aside0.mk hr2; have HC2 := Aside0.mk hc2; clear hr2 hc2; have HB := Aside0.mk (Below.refl w.heap.size w); have H : (if a0_0 = a1 then (some ((strOfNums l0_1).toList == (strOfNums l2).toList)) else (some false)) = some r := h; clear h
  by_cases c4 : a0_0 = a1
  · rw [if_pos c4] at H
    have c4b0 : (a0_0 == a1) = true := beq_iff_eq.mpr c4; have c4b1 : (a0_0 != a1) = false := bne_eq_false_iff_eq.mpr c4; clear c4
    as_aux_lemma =>
      obtain rfl := Option.some.inj H
      go_enter Tryz.func12, Tryz.ntmps12
      go_wp2_with (first | ((with_reducible refine gate_dst (N := 3) rfl ?_); refine box_event ?hg (N := 3) ?hd (cs := #[.int .i64 a0_0, .slice A0_1 l0_1.length c0_1]) (t := 25) ?hr ?_; (case hd => rfl); (case hg => rfl); (case hr => first | (go_simp; done) | (go_simp; rfl)); intro gb455 hg w5 hbox hb; have BK455 := Aside0.mk (hbox); have GE455 := Aside0.mk ((by rw [hg]; exact (below_size HW.zb) : w.heap.size ≤ gb455)); replace HB := Aside0.mk (below_step HW.zb hb); clear hb hbox hg; obtain ⟨hcz6_0, hcz6_1⟩ := HW.k2 BK455.out; have hcv7 := Kd.C_string (P := Tryz.prog) (A := A0_1) (c := c0_1) Tryz.underlying22 Tryz.underlying5 Tryz.underlying9 (Kd.C_below HR0_1.out HB.out); have hcv8 := Kd.C_string (P := Tryz.prog) (A := A2) (c := c2) Tryz.underlying22 Tryz.underlying5 Tryz.underlying9 (Kd.C_below HR2.out HB.out)))
      go_ret
      exact ⟨rfl, HW.zb⟩
  rw [if_neg c4] at H; have c4b0 : (a0_0 == a1) = false := beq_eq_false_iff_ne.mpr c4; have c4b1 : (a0_0 != a1) = true := bne_iff_ne.mpr c4
  as_aux_lemma =>
    obtain rfl := Option.some.inj H
    go_enter Tryz.func12, Tryz.ntmps12
    go_wp2_with (first | ((with_reducible refine gate_dst (N := 3) rfl ?_); refine box_event ?hg (N := 3) ?hd (cs := #[.int .i64 a0_0, .slice A0_1 l0_1.length c0_1]) (t := 25) ?hr ?_; (case hd => rfl); (case hg => rfl); (case hr => first | (go_simp; done) | (go_simp; rfl)); intro gb455 hg w9 hbox hb; have BK455 := Aside0.mk (hbox); have GE455 := Aside0.mk ((by rw [hg]; exact (below_size HW.zb) : w.heap.size ≤ gb455)); replace HB := Aside0.mk (below_step HW.zb hb); clear hb hbox hg; obtain ⟨hcz10_0, hcz10_1⟩ := HW.k2 BK455.out))
    go_ret
    exact ⟨rfl, HW.zb⟩
def laws_zzFits2.l0 : Nat → List ByteArray → Int → Int → Option (Bool)
  | 0, _, _, _ => none
  | k + 1, x8, x9, x10 => if x10 < x9 then (if 0 ≤ x10 then (if x10 < (x8.length : Int) then (if ((rdOf ByteArray.empty x8 x10).size : Int) > 2147483647 then (some false) else (laws_zzFits2.l0 k x8 x9 (wrap64 (x10 + 1)))) else (none)) else (none)) else (some true)
def laws_zzFits2.f (k : Nat) (l0 : List ByteArray) : Option (Bool) := if (l0.length : Int) > 2147483647 then (some false) else (laws_zzFits2.l0 k l0 (l0.length : Int) 0)
theorem laws_zzFits2.mono_l : ∀ k, (∀ y0 y1 y2, LeO (laws_zzFits2.l0 k y0 y1 y2) (laws_zzFits2.l0 (k + 1) y0 y1 y2))
  | 0 => fun _ _ _ r h => by simp [laws_zzFits2.l0] at h
  | k + 1 => by
    have ih0 := laws_zzFits2.mono_l k
    · intro y0 y1 y2
      unfold laws_zzFits2.l0
      have m0_ := @ih0; exact HW.mo
theorem laws_zzFits2.mono : ∀ a0 k, LeO (laws_zzFits2.f k a0) (laws_zzFits2.f (k + 1) a0) := by
  intro a0 k
  have ih0 := laws_zzFits2.mono_l k
  unfold laws_zzFits2.f
  have m0_ := @ih0; exact HW.mo
theorem laws_zzFits2.calls (k : Nat) (A0 : Option Addr) (c0 : Nat) (l0 : List ByteArray) (r : Bool) (w : World) (hr0 : Kd.C Kd.string w A0 l0.length l0) (hc0 : l0.length ≤ c0) (h : laws_zzFits2.f k l0 = some r) :
    Calls Tryz.prog 13 #[.slice A0 l0.length c0] w fun e w' => e = .returned (.bool r) ∧ Drawn0 w w' := by
  have HR0 := Aside0.mk hr0; have HC0 := Aside0.mk hc0; clear hr0 hc0; have H : (if (l0.length : Int) > 2147483647 then (some false) else (laws_zzFits2.l0 k l0 (l0.length : Int) 0)) = some r := h; clear h
  by_cases c2 : (l0.length : Int) > 2147483647
  · rw [if_pos c2] at H
    have c2b0 : decide (2147483647 < (l0.length : Int)) = true := decide_eq_true c2
    have c2b1 : decide (2147483647 < l0.length) = true := decide_eq_true (by omega)
    clear c2
    as_aux_lemma =>
      obtain rfl := Option.some.inj H
      go_enter Tryz.func13, Tryz.ntmps13
      go_wp2
      go_ret
      exact ⟨by first | rfl | (simp; done) | (simp [*]; done), by repeat (first | exact Drawn0.refl _ | apply Drawn0.step)⟩
  rw [if_neg c2] at H; have c2b0 : decide (2147483647 < (l0.length : Int)) = false := decide_eq_false c2
  have c2b1 : decide (2147483647 < l0.length) = false := decide_eq_false (by omega)
  clear c2; have H' := Aside0.mk H; clear H
  go_enter Tryz.func13, Tryz.ntmps13
  go_wp2
  go_loopg [10] k (fun kq v10 w' => ∃ (x10_1 : Int), v10 = .int .i64 x10_1 ∧ Aside0 (laws_zzFits2.l0 kq l0 (l0.length : Int) x10_1 = some r) ∧ Aside0 (kq ≤ k) ∧ Drawn0 w w')
  case atStart => exact ⟨(0), HW.rs, H', ⟨Nat.le_refl _⟩, by repeat (first | exact Drawn0.refl _ | apply Drawn0.step)⟩
  case round =>
    clear H'
    (try clear c1); (try clear c2); (try clear c2b0); (try clear c2b1); (try clear p2)
    obtain ⟨x10_1, rfl, HA, HK1, ⟨m1, rfl⟩⟩ := hrel
    cases gk with
    | zero => exact absurd HA.out (by simp [laws_zzFits2.l0])
    | succ k1 =>
      have H := HA.out; clear HA
      simp only [laws_zzFits2.l0] at H
      by_cases c3 : x10_1 < (l0.length : Int)
      rotate_left
      · rw [if_neg c3] at H
        have c3b0 : decide (x10_1 < (l0.length : Int)) = false := decide_eq_false c3; clear c3
        as_aux_lemma =>
          obtain rfl := Option.some.inj H
          go_wp2
          go_ret
          exact ⟨by first | rfl | (simp; done) | (simp [*]; done), by repeat (first | exact Drawn0.refl _ | apply Drawn0.step)⟩
      rw [if_pos c3] at H; have c3b0 : decide (x10_1 < (l0.length : Int)) = true := decide_eq_true c3; clear c3
      by_cases c4 : 0 ≤ x10_1
      rotate_left
      · rw [if_neg c4] at H
        exact absurd H (by simp)
      rw [if_pos c4] at H; have c4b0 : decide (0 ≤ x10_1) = true := decide_eq_true c4; clear c4
      by_cases c5 : x10_1 < (l0.length : Int)
      rotate_left
      · rw [if_neg c5] at H
        exact absurd H (by simp)
      rw [if_pos c5] at H; have c5b0 : decide (x10_1 < (l0.length : Int)) = true := decide_eq_true c5; clear c5
      by_cases c6 : ((rdOf ByteArray.empty l0 x10_1).size : Int) > 2147483647
      · rw [if_pos c6] at H
        have c6b0 : decide (2147483647 < ((rdOf ByteArray.empty l0 x10_1).size : Int)) = true := decide_eq_true c6
        have c6b1 : decide (2147483647 < (rdOf ByteArray.empty l0 x10_1).size) = true := decide_eq_true (by omega)
        clear c6
        as_aux_lemma =>
          obtain rfl := Option.some.inj H
          have p456 : 0 ≤ (x10_1 : Int) := HW.od
          have q456 : x10_1 < (l0.length : Int) := HW.od
          obtain ⟨ad456, e456, hx456_0⟩ := Kd.at_string HR0.out x10_1 p456 q456
          cases e456
          replace p456 := eq_true p456; replace q456 := eq_true q456
          go_wp2
          go_ret
          exact ⟨by first | rfl | (simp; done) | (simp [*]; done), by repeat (first | exact Drawn0.refl _ | apply Drawn0.step)⟩
      rw [if_neg c6] at H; have c6b0 : decide (2147483647 < ((rdOf ByteArray.empty l0 x10_1).size : Int)) = false := decide_eq_false c6
      have c6b1 : decide (2147483647 < (rdOf ByteArray.empty l0 x10_1).size) = false := decide_eq_false (by omega)
      clear c6
      as_aux_lemma =>
        have H' := Aside0.mk H; clear H
        have p456 : 0 ≤ (x10_1 : Int) := HW.od
        have q456 : x10_1 < (l0.length : Int) := HW.od
        obtain ⟨ad456, e456, hx456_0⟩ := Kd.at_string HR0.out x10_1 p456 q456
        cases e456
        replace p456 := eq_true p456; replace q456 := eq_true q456
        go_wp2
        go_roundg k1
        case measure => have := HK1.out; omega
        case rel => exact ⟨(wrap64 (x10_1 + 1)), HW.rs, H', ⟨by have := HK1.out; omega⟩, by repeat (first | exact Drawn0.refl _ | apply Drawn0.step)⟩
mutual
def laws_docCount.l0 : Nat → Int → Int → Int → Int → ByteArray → ByteArray → Int → Int → Int → List Int → List (S73) → Option (Int)
  | 0, _, _, _, _, _, _, _, _, _, _, _ => none
  | k + 1, x1, x5, x6, x458000, x458001, x458002, x458003, x458004, x458005, x458006, x458007 => if x6 < (x458007.length : Int) then (laws_docCount.j1 k x1 x5 x6 (decide (x5 ≤ x1)) x458000 x458001 x458002 x458003 x458004 x458005 x458006 x458007) else (laws_docCount.j1 k x1 x5 x6 false x458000 x458001 x458002 x458003 x458004 x458005 x458006 x458007)
def laws_docCount.j1 : Nat → Int → Int → Int → Bool → Int → ByteArray → ByteArray → Int → Int → Int → List Int → List (S73) → Option (Int)
  | 0, _, _, _, _, _, _, _, _, _, _, _, _ => none
  | k + 1, x1, x5, x6, x16, x458000, x458001, x458002, x458003, x458004, x458005, x458006, x458007 => if x16 = true then (if 0 ≤ x6 then (if x6 < (x458007.length : Int) then ((laws_docCount.f k ((rd_T73 x458007 x6).f1.f0) ((rd_T73 x458007 x6).f1.f1) ((rd_T73 x458007 x6).f1.f2) ((rd_T73 x458007 x6).f1.f3) ((rd_T73 x458007 x6).f1.f4) ((rd_T73 x458007 x6).f1.f5) ((rd_T73 x458007 x6).f1.f6) ((rd_T73 x458007 x6).f1.f7) (wrap64 (x1 - x5))).bind fun t459 => (laws_docCount.l0 k x1 (wrap64 (x5 + t459)) (wrap64 (x6 + 1)) x458000 x458001 x458002 x458003 x458004 x458005 x458006 x458007)) else (none)) else (none)) else (some x5)
def laws_docCount.f : Nat → Int → ByteArray → ByteArray → Int → Int → Int → List Int → List (S73) → Int → Option (Int)
  | 0, _, _, _, _, _, _, _, _, _ => none
  | k + 1, a0_0, a0_1, a0_2, a0_3, a0_4, a0_5, l0_6, l0_7, a1 => laws_docCount.l0 k a1 1 0 a0_0 a0_1 a0_2 a0_3 a0_4 a0_5 l0_6 l0_7
end
theorem laws_docCount.mono_l : ∀ k, (∀ y0 y1 y2 y3 y4 y5 y6 y7 y8, LeO (laws_docCount.f k y0 y1 y2 y3 y4 y5 y6 y7 y8) (laws_docCount.f (k + 1) y0 y1 y2 y3 y4 y5 y6 y7 y8)) ∧ (∀ y0 y1 y2 y3 y4 y5 y6 y7 y8 y9 y10, LeO (laws_docCount.l0 k y0 y1 y2 y3 y4 y5 y6 y7 y8 y9 y10) (laws_docCount.l0 (k + 1) y0 y1 y2 y3 y4 y5 y6 y7 y8 y9 y10)) ∧ (∀ y0 y1 y2 y3 y4 y5 y6 y7 y8 y9 y10 y11, LeO (laws_docCount.j1 k y0 y1 y2 y3 y4 y5 y6 y7 y8 y9 y10 y11) (laws_docCount.j1 (k + 1) y0 y1 y2 y3 y4 y5 y6 y7 y8 y9 y10 y11))
  | 0 => ⟨fun _ _ _ _ _ _ _ _ _ r h => by simp [laws_docCount.f] at h, fun _ _ _ _ _ _ _ _ _ _ _ r h => by simp [laws_docCount.l0] at h, fun _ _ _ _ _ _ _ _ _ _ _ _ r h => by simp [laws_docCount.j1] at h⟩
  | k + 1 => by
    obtain ⟨ih0, ih1, ih2⟩ := laws_docCount.mono_l k
    refine ⟨?_, ?_, ?_⟩
    · intro y0 y1 y2 y3 y4 y5 y6 y7 y8
      unfold laws_docCount.f
      have m0_ := @ih0; have m1_ := @ih1; have m2_ := @ih2; exact HW.mo
    · intro y0 y1 y2 y3 y4 y5 y6 y7 y8 y9 y10
      unfold laws_docCount.l0
      have m0_ := @ih0; have m1_ := @ih1; have m2_ := @ih2; exact HW.mo
    · intro y0 y1 y2 y3 y4 y5 y6 y7 y8 y9 y10 y11
      unfold laws_docCount.j1
      have m0_ := @ih0; have m1_ := @ih1; have m2_ := @ih2; exact HW.mo
theorem laws_docCount.mono : ∀ a0 a1 a2 a3 a4 a5 a6 a7 a8 k, LeO (laws_docCount.f k a0 a1 a2 a3 a4 a5 a6 a7 a8) (laws_docCount.f (k + 1) a0 a1 a2 a3 a4 a5 a6 a7 a8) := by
  intro a0 a1 a2 a3 a4 a5 a6 a7 a8 k
  obtain ⟨ih0, ih1, ih2⟩ := laws_docCount.mono_l k
  exact ih0 a0 a1 a2 a3 a4 a5 a6 a7 a8
theorem laws_docCount.calls (k : Nat) : ∀ (a0_0 : Int) (a0_1 : ByteArray) (a0_2 : ByteArray) (a0_3 : Int) (a0_4 : Int) (a0_5 : Int) (A0_6 : Option Addr) (c0_6 : Nat) (l0_6 : List Int) (A0_7 : Option Addr) (c0_7 : Nat) (l0_7 : List (S73)) (a1 : Int) (r : Int) (w : World) (hr0_6 : Kd.C (Kd.int .u8) w A0_6 l0_6.length l0_6) (hc0_6 : l0_6.length ≤ c0_6) (hr0_7 : Kd.C k73 w A0_7 l0_7.length l0_7) (hc0_7 : l0_7.length ≤ c0_7) (h : laws_docCount.f k a0_0 a0_1 a0_2 a0_3 a0_4 a0_5 l0_6 l0_7 a1 = some r),
    Calls Tryz.prog 70 #[.agg #[.int .i64 a0_0, .string a0_1, .string a0_2, .int .i64 a0_3, .int .u64 a0_4, .int .u64 a0_5, .slice A0_6 l0_6.length c0_6, .slice A0_7 l0_7.length c0_7], .int .i64 a1] w fun e w' => e = .returned (.int .i64 r) ∧ Below w.heap.size w w' := by
  induction k using Nat.strongRecOn with
  | _ k ih =>
  intro a0_0 a0_1 a0_2 a0_3 a0_4 a0_5 A0_6 c0_6 l0_6 A0_7 c0_7 l0_7 a1 r w hr0_6 hc0_6 hr0_7 hc0_7 h
  cases k with
  | zero => exact absurd h (by simp [laws_docCount.f])
  | succ k =>
  simp only [laws_docCount.f] at h
  have hu46 := Tryz.underlying46; have HR0_6 := Aside0.mk hr0_6; have HC0_6 := Aside0.mk hc0_6; clear hr0_6 hc0_6; have HR0_7 := Aside0.mk hr0_7; have HC0_7 := Aside0.mk hc0_7; clear hr0_7 hc0_7; have HB := Aside0.mk (Below.refl w.heap.size w); have H : (laws_docCount.l0 k a1 1 0 a0_0 a0_1 a0_2 a0_3 a0_4 a0_5 l0_6 l0_7) = some r := h; clear h; have H' := Aside0.mk H; clear H
  go_enter Tryz.func70, Tryz.ntmps70
  go_wp2_with (first | ((with_reducible refine gate_dst (N := 2) rfl ?_); refine box_event ?hg (N := 2) ?hd (cs := #[.int .i64 a0_0, .string a0_1, .string a0_2, .int .i64 a0_3, .int .u64 a0_4, .int .u64 a0_5, .slice A0_6 l0_6.length c0_6, .slice A0_7 l0_7.length c0_7]) (t := 46) ?hr ?_; (case hd => rfl); (case hg => rfl); (case hr => first | (go_simp; done) | (go_simp; rfl)); intro gb457 hg w3 hbox hb; have BK457 := Aside0.mk (hbox); have GE457 := Aside0.mk ((by rw [hg]; exact (below_size HW.zb) : w.heap.size ≤ gb457)); replace HB := Aside0.mk (below_step HW.zb hb); clear hb hbox hg))
  go_loopg [5, 6] k (fun kq v5 v6 w' => ∃ (x5_1 : Int) (x6_1 : Int), v5 = .int .i64 x5_1 ∧ v6 = .int .i64 x6_1 ∧ Aside0 (laws_docCount.l0 kq a1 x5_1 x6_1 a0_0 a0_1 a0_2 a0_3 a0_4 a0_5 l0_6 l0_7 = some r) ∧ Aside0 (kq ≤ k) ∧ Aside0 (w'.heap[gb457]? = some (.cells #[.int .i64 a0_0, .string a0_1, .string a0_2, .int .i64 a0_3, .int .u64 a0_4, .int .u64 a0_5, (.slice A0_6 l0_6.length c0_6), (.slice A0_7 l0_7.length c0_7)] 46 (0, 0))) ∧ Aside0 (Below w.heap.size w w'))
  case atStart => exact ⟨(1), (0), (by first | rfl | (simp; done) | (simp [*]; done)), HW.rs, H', ⟨Nat.le_refl _⟩, ⟨by (with_reducible repeat (first | refine blk_drewN ?_ _ | refine blk_drew ?_ | refine blk_alloc ?_ _)); exact BK457.out⟩, ⟨HW.zb⟩⟩
  case round =>
    clear H'
    (try clear p2)
    obtain ⟨x5_1, x6_1, rfl, rfl, HA, HK1, BK457, HB⟩ := hrel
    cases gk with
    | zero => exact absurd HA.out (by simp [laws_docCount.l0])
    | succ k1 =>
      have H := HA.out; clear HA
      simp only [laws_docCount.l0] at H
      have HC4 := Aside0.mk H; clear H
      go_upto_region 3 with (fail)
      go_cut [16] (fun v16 wc => ∃ (kq : Nat) (x16_3 : Bool), v16 = .bool x16_3 ∧ Aside0 (laws_docCount.j1 kq a1 x5_1 x6_1 x16_3 a0_0 a0_1 a0_2 a0_3 a0_4 a0_5 l0_6 l0_7 = some r) ∧ Aside0 (kq ≤ k1) ∧ Aside0 (wc.heap[gb457]? = some (.cells #[.int .i64 a0_0, .string a0_1, .string a0_2, .int .i64 a0_3, .int .u64 a0_4, .int .u64 a0_5, (.slice A0_6 l0_6.length c0_6), (.slice A0_7 l0_7.length c0_7)] 46 (0, 0))) ∧ Aside0 (Below w.heap.size w wc))
      case first =>
        have H := HC4.out; clear HC4
        by_cases c5 : x6_1 < (l0_7.length : Int)
        · rw [if_pos c5] at H
          have c5b0 : decide (x6_1 < (l0_7.length : Int)) = true := decide_eq_true c5; clear c5
          (first | rw [c5b0] | (simp only [i64_w, i32_w]; rw [c5b0]) | skip)
          as_aux_lemma =>
            have H' := Aside0.mk H; clear H; obtain ⟨hcz6_0, hcz6_1, hcz6_2, hcz6_3, hcz6_4, hcz6_5, hcz6_6, hcz6_7⟩ := HW.k8 BK457.out
            go_wp2
            go_meet
            case rel => exact ⟨_, (decide (x5_1 ≤ a1)), HW.rs, H', ⟨by have := HK1.out; first | omega | exact Nat.le_refl _⟩, ⟨by (with_reducible repeat (first | refine blk_drewN ?_ _ | refine blk_drew ?_ | refine blk_alloc ?_ _)); exact BK457.out⟩, ⟨HW.zb⟩⟩
        rw [if_neg c5] at H; have c5b0 : decide (x6_1 < (l0_7.length : Int)) = false := decide_eq_false c5; clear c5
        (first | rw [c5b0] | (simp only [i64_w, i32_w]; rw [c5b0]) | skip)
        as_aux_lemma =>
          have H' := Aside0.mk H; clear H; obtain ⟨hcz7_0, hcz7_1, hcz7_2, hcz7_3, hcz7_4, hcz7_5, hcz7_6, hcz7_7⟩ := HW.k8 BK457.out
          go_wp2
          go_meet
          case rel => exact ⟨_, (false), HW.rs, H', ⟨by have := HK1.out; first | omega | exact Nat.le_refl _⟩, ⟨by (with_reducible repeat (first | refine blk_drewN ?_ _ | refine blk_drew ?_ | refine blk_alloc ?_ _)); exact BK457.out⟩, ⟨HW.zb⟩⟩
      case rest =>
        clear HC4
        (try clear p2); (try clear c5); (try clear c5b0); (try clear c7); (try clear hcz6_0 hcz6_1 hcz6_2 hcz6_3 hcz6_4 hcz6_5 hcz6_6 hcz6_7); (try clear hcz7_0 hcz7_1 hcz7_2 hcz7_3 hcz7_4 hcz7_5 hcz7_6 hcz7_7); (try clear p2)
        obtain ⟨kq, x16_3, rfl, HA, HJ3, BK457, HB⟩ := hcut
        cases kq with
        | zero => exact absurd HA.out (by simp [laws_docCount.j1])
        | succ kj3 =>
          have H := HA.out; clear HA
          simp only [laws_docCount.j1] at H
          by_cases c8 : x16_3 = true
          rotate_left
          · replace c8 := Bool.eq_false_iff.mpr c8
            subst c8
            have H1 : (some x5_1) = some r := by rw [if_neg (show ¬ (false = true) by decide)] at H; exact H
            clear H; have H := H1; clear H1
            as_aux_lemma =>
              obtain rfl := Option.some.inj H
              go_wp2
              go_ret
              exact ⟨rfl, HW.zb⟩
          subst c8
          have H1 : (if 0 ≤ x6_1 then (if x6_1 < (l0_7.length : Int) then ((laws_docCount.f kj3 ((rd_T73 l0_7 x6_1).f1.f0) ((rd_T73 l0_7 x6_1).f1.f1) ((rd_T73 l0_7 x6_1).f1.f2) ((rd_T73 l0_7 x6_1).f1.f3) ((rd_T73 l0_7 x6_1).f1.f4) ((rd_T73 l0_7 x6_1).f1.f5) ((rd_T73 l0_7 x6_1).f1.f6) ((rd_T73 l0_7 x6_1).f1.f7) (wrap64 (a1 - x5_1))).bind fun t459 => (laws_docCount.l0 kj3 a1 (wrap64 (x5_1 + t459)) (wrap64 (x6_1 + 1)) a0_0 a0_1 a0_2 a0_3 a0_4 a0_5 l0_6 l0_7)) else (none)) else (none)) = some r := by rw [if_pos rfl] at H; exact H
          clear H; have H := H1; clear H1
          by_cases c9 : 0 ≤ x6_1
          rotate_left
          · rw [if_neg c9] at H
            exact absurd H (by simp)
          rw [if_pos c9] at H; have c9b0 : decide (0 ≤ x6_1) = true := decide_eq_true c9; clear c9
          by_cases c10 : x6_1 < (l0_7.length : Int)
          rotate_left
          · rw [if_neg c10] at H
            exact absurd H (by simp)
          rw [if_pos c10] at H; have c10b0 : decide (x6_1 < (l0_7.length : Int)) = true := decide_eq_true c10; clear c10; replace H := Option.bind_eq_some_iff.mp H; obtain ⟨t459, A110, H⟩ := H; replace H : (laws_docCount.l0 kj3 a1 (wrap64 (x5_1 + t459)) (wrap64 (x6_1 + 1)) a0_0 a0_1 a0_2 a0_3 a0_4 a0_5 l0_6 l0_7) = some r := H; have A11 := Aside0.mk A110; clear A110
          as_aux_lemma =>
            have H' := Aside0.mk H; clear H; obtain ⟨hcz12_0, hcz12_1, hcz12_2, hcz12_3, hcz12_4, hcz12_5, hcz12_6, hcz12_7⟩ := HW.k8 BK457.out
            have p458 : 0 ≤ (x6_1 : Int) := HW.od
            have q458 : x6_1 < (l0_7.length : Int) := HW.od
            obtain ⟨ad458, A458_7, c458_7, A458_8, c458_8, e458, hx458_0, hx458_1, hx458_2, hx458_3, hx458_4, hx458_5, hx458_6, hx458_7, hx458_8, hl458_7, hi458_7, hl458_8, hi458_8⟩ := at_T73 HR0_7.out x6_1 p458 q458
            cases e458
            replace hx458_0 := (HB.out.cell (World.block_lt_of_cell? w _ hx458_0)).trans hx458_0; replace hx458_1 := (HB.out.cell (World.block_lt_of_cell? w _ hx458_1)).trans hx458_1; replace hx458_2 := (HB.out.cell (World.block_lt_of_cell? w _ hx458_2)).trans hx458_2; replace hx458_3 := (HB.out.cell (World.block_lt_of_cell? w _ hx458_3)).trans hx458_3; replace hx458_4 := (HB.out.cell (World.block_lt_of_cell? w _ hx458_4)).trans hx458_4; replace hx458_5 := (HB.out.cell (World.block_lt_of_cell? w _ hx458_5)).trans hx458_5; replace hx458_6 := (HB.out.cell (World.block_lt_of_cell? w _ hx458_6)).trans hx458_6; replace hx458_7 := (HB.out.cell (World.block_lt_of_cell? w _ hx458_7)).trans hx458_7; replace hx458_8 := (HB.out.cell (World.block_lt_of_cell? w _ hx458_8)).trans hx458_8; have HR458_7 := Aside0.mk hi458_7; have HC458_7 := Aside0.mk hl458_7; clear hi458_7 hl458_7; have HR458_8 := Aside0.mk hi458_8; have HC458_8 := Aside0.mk hl458_8; clear hi458_8 hl458_8; replace p458 := eq_true p458; replace q458 := eq_true q458
            go_wp2_with (first | ((with_reducible refine gate_callee (f := 70) rfl ?_); refine HW.gz (some 29) rfl rfl Tryz.func70 (by kernel_rfl) rfl #[.agg #[.int .i64 ((rd_T73 l0_7 x6_1).f1.f0), .string ((rd_T73 l0_7 x6_1).f1.f1), .string ((rd_T73 l0_7 x6_1).f1.f2), .int .i64 ((rd_T73 l0_7 x6_1).f1.f3), .int .u64 ((rd_T73 l0_7 x6_1).f1.f4), .int .u64 ((rd_T73 l0_7 x6_1).f1.f5), .slice A458_7 ((rd_T73 l0_7 x6_1).f1.f6).length c458_7, .slice A458_8 ((rd_T73 l0_7 x6_1).f1.f7).length c458_8], .int .i64 (wrap64 (a1 - x5_1))] rfl ?_; (with_reducible refine (ih kj3 (by have := HK1.out; have := HJ3.out; omega) ((rd_T73 l0_7 x6_1).f1.f0) ((rd_T73 l0_7 x6_1).f1.f1) ((rd_T73 l0_7 x6_1).f1.f2) ((rd_T73 l0_7 x6_1).f1.f3) ((rd_T73 l0_7 x6_1).f1.f4) ((rd_T73 l0_7 x6_1).f1.f5) _ _ ((rd_T73 l0_7 x6_1).f1.f6) _ _ ((rd_T73 l0_7 x6_1).f1.f7) (wrap64 (a1 - x5_1)) t459 _ ?side1 ?side2 ?side3 ?side4 A11.out).mono ?_); (case side1 => repeat (first | exact (Kd.C_below HR458_7.out HB.out) | (with_reducible refine Kd.C_alloc ?_ _) | (with_reducible refine Kd.C_drewN ?_ _) | (with_reducible refine Kd.C_drew ?_))); (case side2 => exact HC458_7.out); (case side3 => repeat (first | exact (Kd.C_below HR458_8.out HB.out) | (with_reducible refine Kd.C_alloc ?_ _) | (with_reducible refine Kd.C_drewN ?_ _) | (with_reducible refine Kd.C_drew ?_))); (case side4 => exact HC458_8.out); rintro e w13 ⟨rfl, hb⟩; refine ⟨_, rfl, ?_⟩; replace BK457 := Aside0.mk (blk_below (HW.zB BK457.out) hb); replace HB := Aside0.mk (below_step HW.zb hb); (try clear hb)))
            go_roundg kj3
            case measure => have := HK1.out; have := HJ3.out; omega
            case rel => exact ⟨(wrap64 (x5_1 + t459)), (wrap64 (x6_1 + 1)), (by first | rfl | (simp; done) | (simp [*]; done)), HW.rs, H', ⟨by have := HK1.out; have := HJ3.out; omega⟩, ⟨by (with_reducible repeat (first | refine blk_drewN ?_ _ | refine blk_drew ?_ | refine blk_alloc ?_ _)); exact BK457.out⟩, ⟨HW.zb⟩⟩
def spec_DocPlain.l0 : Nat → ByteArray → Int → Option (Bool)
  | 0, _, _ => none
  | k + 1, x0, x3 => if x3 < (x0.size : Int) then (if 0 ≤ x3 then (if (bt x0 x3) = 0 then (some false) else (spec_DocPlain.l0 k x0 (wrap64 (x3 + 1)))) else (none)) else (some true)
def spec_DocPlain.f (k : Nat) (a0 : ByteArray) : Option (Bool) := spec_DocPlain.l0 k a0 0
theorem spec_DocPlain.mono_l : ∀ k, (∀ y0 y1, LeO (spec_DocPlain.l0 k y0 y1) (spec_DocPlain.l0 (k + 1) y0 y1))
  | 0 => fun _ _ r h => by simp [spec_DocPlain.l0] at h
  | k + 1 => by
    have ih0 := spec_DocPlain.mono_l k
    · intro y0 y1
      unfold spec_DocPlain.l0
      have m0_ := @ih0; exact HW.mo
theorem spec_DocPlain.mono : ∀ a0 k, LeO (spec_DocPlain.f k a0) (spec_DocPlain.f (k + 1) a0) := by
  intro a0 k
  have ih0 := spec_DocPlain.mono_l k
  unfold spec_DocPlain.f
  have m0_ := @ih0; exact HW.mo
theorem spec_DocPlain.calls (k : Nat) (a0 : ByteArray) (r : Bool) (w : World) (h : spec_DocPlain.f k a0 = some r) :
    Calls Tryz.prog 15 #[.string a0] w fun e w' => e = .returned (.bool r) ∧ Drawn0 w w' := by
  have H : (spec_DocPlain.l0 k a0 0) = some r := h; clear h; have H' := Aside0.mk H; clear H
  go_enter Tryz.func15, Tryz.ntmps15
  go_wp2
  go_loopg [3] k (fun kq v3 w' => ∃ (x3_1 : Int), v3 = .int .i64 x3_1 ∧ Aside0 (spec_DocPlain.l0 kq a0 x3_1 = some r) ∧ Aside0 (kq ≤ k) ∧ Drawn0 w w')
  case atStart => exact ⟨(0), HW.rs, H', ⟨Nat.le_refl _⟩, by repeat (first | exact Drawn0.refl _ | apply Drawn0.step)⟩
  case round =>
    clear H'
    (try clear c1)
    obtain ⟨x3_1, rfl, HA, HK1, ⟨m1, rfl⟩⟩ := hrel
    cases gk with
    | zero => exact absurd HA.out (by simp [spec_DocPlain.l0])
    | succ k1 =>
      have H := HA.out; clear HA
      simp only [spec_DocPlain.l0] at H
      by_cases c2 : x3_1 < (a0.size : Int)
      rotate_left
      · rw [if_neg c2] at H
        have c2b0 : decide (x3_1 < (a0.size : Int)) = false := decide_eq_false c2; clear c2
        as_aux_lemma =>
          obtain rfl := Option.some.inj H
          go_wp2
          go_ret
          exact ⟨by first | rfl | (simp; done) | (simp [*]; done), by repeat (first | exact Drawn0.refl _ | apply Drawn0.step)⟩
      rw [if_pos c2] at H; have c2b0 : decide (x3_1 < (a0.size : Int)) = true := decide_eq_true c2; clear c2
      by_cases c3 : 0 ≤ x3_1
      rotate_left
      · rw [if_neg c3] at H
        exact absurd H (by simp)
      rw [if_pos c3] at H; have c3b0 : decide (0 ≤ x3_1) = true := decide_eq_true c3; clear c3
      by_cases c5 : (bt a0 x3_1) = 0
      · rw [if_pos c5] at H
        have c5b0 : ((bt a0 x3_1) == 0) = true := beq_iff_eq.mpr c5; have c5b1 : ((bt a0 x3_1) != 0) = false := bne_eq_false_iff_eq.mpr c5; clear c5
        as_aux_lemma =>
          obtain rfl := Option.some.inj H
          have p4 : 0 ≤ (x3_1 : Int) := HW.od
          have q4 : x3_1 < (a0.size : Int) := HW.od
          have hx4 := bt_at a0 x3_1; replace p4 := eq_true p4; replace q4 := eq_true q4
          go_wp2
          go_ret
          exact ⟨by first | rfl | (simp; done) | (simp [*]; done), by repeat (first | exact Drawn0.refl _ | apply Drawn0.step)⟩
      rw [if_neg c5] at H; have c5b0 : ((bt a0 x3_1) == 0) = false := beq_eq_false_iff_ne.mpr c5; have c5b1 : ((bt a0 x3_1) != 0) = true := bne_iff_ne.mpr c5
      as_aux_lemma =>
        have H' := Aside0.mk H; clear H
        have p4 : 0 ≤ (x3_1 : Int) := HW.od
        have q4 : x3_1 < (a0.size : Int) := HW.od
        have hx4 := bt_at a0 x3_1; replace p4 := eq_true p4; replace q4 := eq_true q4
        go_wp2
        go_roundg k1
        case measure => have := HK1.out; omega
        case rel => exact ⟨(wrap64 (x3_1 + 1)), HW.rs, H', ⟨by have := HK1.out; omega⟩, by repeat (first | exact Drawn0.refl _ | apply Drawn0.step)⟩
def spec_DocKnown.f (a0 : Int) : Option (Bool) := if a0 ≥ 1 then (if a0 ≤ 19 then (some true) else (if a0 = 255 then (some true) else (some (a0 == 127)))) else (if a0 = 255 then (some true) else (some (a0 == 127)))
theorem spec_DocKnown.calls (a0 : Int) (r : Bool) (w : World) (h : spec_DocKnown.f a0 = some r) :
    Calls Tryz.prog 160 #[.int .i64 a0] w fun e w' => e = .returned (.bool r) ∧ Drawn0 w w' := by
  have H : (if a0 ≥ 1 then (if a0 ≤ 19 then (some true) else (if a0 = 255 then (some true) else (some (a0 == 127)))) else (if a0 = 255 then (some true) else (some (a0 == 127)))) = some r := h; clear h
  by_cases c2 : a0 ≥ 1
  rotate_left
  · rw [if_neg c2] at H
    have c2b0 : decide (1 ≤ a0) = false := decide_eq_false c2; clear c2
    by_cases c5 : a0 = 255
    · rw [if_pos c5] at H
      have c5b0 : (a0 == 255) = true := beq_iff_eq.mpr c5; have c5b1 : (a0 != 255) = false := bne_eq_false_iff_eq.mpr c5; clear c5
      as_aux_lemma =>
        obtain rfl := Option.some.inj H
        go_enter Tryz.func160, Tryz.ntmps160
        go_wp2
        go_ret
        exact ⟨by first | rfl | (simp; done) | (simp [*]; done), by repeat (first | exact Drawn0.refl _ | apply Drawn0.step)⟩
    rw [if_neg c5] at H; have c5b0 : (a0 == 255) = false := beq_eq_false_iff_ne.mpr c5; have c5b1 : (a0 != 255) = true := bne_iff_ne.mpr c5
    as_aux_lemma =>
      obtain rfl := Option.some.inj H
      go_enter Tryz.func160, Tryz.ntmps160
      go_wp2
      go_ret
      exact ⟨by first | rfl | (simp; done) | (simp [*]; done), by repeat (first | exact Drawn0.refl _ | apply Drawn0.step)⟩
  rw [if_pos c2] at H; have c2b0 : decide (1 ≤ a0) = true := decide_eq_true c2; clear c2
  by_cases c3 : a0 ≤ 19
  · rw [if_pos c3] at H
    have c3b0 : decide (a0 ≤ 19) = true := decide_eq_true c3; clear c3
    as_aux_lemma =>
      obtain rfl := Option.some.inj H
      go_enter Tryz.func160, Tryz.ntmps160
      go_wp2
      go_ret
      exact ⟨by first | rfl | (simp; done) | (simp [*]; done), by repeat (first | exact Drawn0.refl _ | apply Drawn0.step)⟩
  rw [if_neg c3] at H; have c3b0 : decide (a0 ≤ 19) = false := decide_eq_false c3; clear c3
  by_cases c4 : a0 = 255
  · rw [if_pos c4] at H
    have c4b0 : (a0 == 255) = true := beq_iff_eq.mpr c4; have c4b1 : (a0 != 255) = false := bne_eq_false_iff_eq.mpr c4; clear c4
    as_aux_lemma =>
      obtain rfl := Option.some.inj H
      go_enter Tryz.func160, Tryz.ntmps160
      go_wp2
      go_ret
      exact ⟨by first | rfl | (simp; done) | (simp [*]; done), by repeat (first | exact Drawn0.refl _ | apply Drawn0.step)⟩
  rw [if_neg c4] at H; have c4b0 : (a0 == 255) = false := beq_eq_false_iff_ne.mpr c4; have c4b1 : (a0 != 255) = true := bne_iff_ne.mpr c4
  as_aux_lemma =>
    obtain rfl := Option.some.inj H
    go_enter Tryz.func160, Tryz.ntmps160
    go_wp2
    go_ret
    exact ⟨by first | rfl | (simp; done) | (simp [*]; done), by repeat (first | exact Drawn0.refl _ | apply Drawn0.step)⟩
end Go.Proofs.YtbfhpjkahobgnaaGreatDoor.PLo
