/-
  DERIVED. GIVEN WITH THE SEED: THE CARDS: each row of YthlpmeiihchdjaaDoorRows.lean that lists a variable, with what it lists TIED to the program's text (the seventh form; the later family's looks); each row that meets fmt, with fmt's text TOLD by the authors' own Lean function (tested against real Go, not proved from fmt's source: count such statements apart). THE CARD IS WHAT COUNTS. Prove the row's statement (the work); the ties are given (YthlpmeiihchdjaaDoorTie.lean); close each card by the builder's one call (the guide's Derived/Test/ToyasCard.lean, 'card_holds'). Laid BY PROGRAM, IN A SANDBOX (cutbox-door.mjs). By AI agents, Wed Nov 11 2026. No macro, syntax, notation, axiom, sorry.
-/
import Derived.Test.YthlpmeiihchdjaaDoorRows
import GoSem.ClaimSeven
namespace Go.Proofs.YthlpmeiihchdjaaDoor
namespace Rows

/-- THE TIED CARD OF 'laws.FnExtIDs'. -/
def fnExtIDsCard : Claim7 := { stood := { row := fnExtIDsRow, standIns := [], harness := (true, "e52d8b1466622995e888aa355157d2131411da9c6c62eef108d238f15cbd2342"), looks := true }, kinds := [], alts := [], laidByText := true, laidKinds := [.sentinel, .sentinel, .data], laidTests := true, laidLooks := .later }
def FnExtIDsCardSaid : Prop := Claim7.holds Tryd.pinned (.plain (OpenSpec.ofChange fnExtIDsSpec)) fnExtIDsCard

/-- THE TIED CARD OF 'laws.FnBindID'. -/
def fnBindIDCard : Claim7 := { stood := { row := fnBindIDRow, standIns := [], harness := (true, "e52d8b1466622995e888aa355157d2131411da9c6c62eef108d238f15cbd2342"), looks := true }, kinds := [], alts := [], laidByText := true, laidKinds := [.sentinel, .sentinel, .data], laidTests := true, laidLooks := .later }
def FnBindIDCardSaid : Prop := Claim7.holds Tryd.pinned (.plain (OpenSpec.ofChange fnBindIDSpec)) fnBindIDCard

/-- THE TIED CARD OF 'laws.FnVectorBits'. -/
def fnVectorBitsCard : Claim7 := { stood := { row := fnVectorBitsRow, standIns := [], harness := (true, "e52d8b1466622995e888aa355157d2131411da9c6c62eef108d238f15cbd2342"), looks := true }, kinds := [], alts := [], laidByText := true, laidKinds := [.sentinel, .sentinel, .sentinel], laidTests := true, laidLooks := .later }
def FnVectorBitsCardSaid : Prop := Claim7.holds Tryd.pinned (.plain (OpenSpec.ofChange fnVectorBitsSpec)) fnVectorBitsCard

/-- THE SECOND FORM's CARD OF 'laws.FnExtIDs'. -/
def fnExtIDsUptoCard : Claim7 := { stood := { row := fnExtIDsUptoRow, standIns := [], harness := (true, "e52d8b1466622995e888aa355157d2131411da9c6c62eef108d238f15cbd2342"), looks := true }, kinds := [], alts := [], laidByText := true, laidKinds := [.sentinel, .sentinel, .data], laidTests := true, laidLooks := .later }
def FnExtIDsUptoCardSaid : Prop := Claim7.holds Tryd.pinned (.plain (OpenSpec.upto fnExtIDsSpec)) fnExtIDsUptoCard

/-- THE SECOND FORM's CARD OF 'laws.FnBindID'. -/
def fnBindIDUptoCard : Claim7 := { stood := { row := fnBindIDUptoRow, standIns := [], harness := (true, "e52d8b1466622995e888aa355157d2131411da9c6c62eef108d238f15cbd2342"), looks := true }, kinds := [], alts := [], laidByText := true, laidKinds := [.sentinel, .sentinel, .data], laidTests := true, laidLooks := .later }
def FnBindIDUptoCardSaid : Prop := Claim7.holds Tryd.pinned (.plain (OpenSpec.upto fnBindIDSpec)) fnBindIDUptoCard

/-- THE SECOND FORM's CARD OF 'laws.FnVectorBits'. -/
def fnVectorBitsUptoCard : Claim7 := { stood := { row := fnVectorBitsUptoRow, standIns := [], harness := (true, "e52d8b1466622995e888aa355157d2131411da9c6c62eef108d238f15cbd2342"), looks := true }, kinds := [], alts := [], laidByText := true, laidKinds := [.sentinel, .sentinel, .sentinel], laidTests := true, laidLooks := .later }
def FnVectorBitsUptoCardSaid : Prop := Claim7.holds Tryd.pinned (.plain (OpenSpec.upto fnVectorBitsSpec)) fnVectorBitsUptoCard
end Rows
end Go.Proofs.YthlpmeiihchdjaaDoor
