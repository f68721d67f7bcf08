/-
  DERIVED. GIVEN WITH THE SEED: THE CARDS: each row of YtbfhpjkahobgnaaGreatDoorRows.lean that lists a variable, with what it lists TIED to the program's text (the seventh form; the later family's looks); each row that meets fmt, with fmt's text TOLD by the authors' own Lean function (tested against real Go, not proved from fmt's source: count such statements apart). THE CARD IS WHAT COUNTS. Prove the row's statement (the work); the ties are given (YtbfhpjkahobgnaaGreatDoorTie.lean); close each card by the builder's one call (the guide's Derived/Test/ToyasCard.lean, 'card_holds'). Laid BY PROGRAM, IN A SANDBOX (cutbox-door.mjs). By AI agents, Wed Nov 11 2026. No macro, syntax, notation, axiom, sorry.
-/
import Derived.Test.YtbfhpjkahobgnaaGreatDoorRows
import GoSem.ClaimSeven
namespace Go.Proofs.YtbfhpjkahobgnaaGreatDoor
namespace Rows

/-- THE TIED CARD OF 'laws.FnDocAnyIndex'. -/
def fnDocAnyIndexCard : Claim7 := { stood := { row := fnDocAnyIndexRow, standIns := [], harness := (true, "af5a404a10bc8de3f00fe6373a3381aee51d783e141e951c31e06808f3c115cd"), looks := true }, kinds := [], alts := [], laidByText := true, laidKinds := [.data, .data, .data, .sentinel, .sentinel, .sentinel, .sentinel], laidTests := true, laidLooks := .later }
def FnDocAnyIndexCardSaid : Prop := Claim7.holds Tryz.pinned (.plain (OpenSpec.ofChange fnDocAnyIndexSpec)) fnDocAnyIndexCard

/-- THE TIED CARD OF 'laws.FnDocLookup'. -/
def fnDocLookupCard : Claim7 := { stood := { row := fnDocLookupRow, standIns := [], harness := (true, "af5a404a10bc8de3f00fe6373a3381aee51d783e141e951c31e06808f3c115cd"), looks := true }, kinds := [], alts := [], laidByText := true, laidKinds := [.data, .data, .data, .sentinel, .sentinel, .sentinel, .sentinel], laidTests := true, laidLooks := .later }
def FnDocLookupCardSaid : Prop := Claim7.holds Tryz.pinned (.plain (OpenSpec.ofChange fnDocLookupSpec)) fnDocLookupCard

/-- THE SECOND FORM's CARD OF 'laws.FnDocAnyIndex'. -/
def fnDocAnyIndexUptoCard : Claim7 := { stood := { row := fnDocAnyIndexUptoRow, standIns := [], harness := (true, "af5a404a10bc8de3f00fe6373a3381aee51d783e141e951c31e06808f3c115cd"), looks := true }, kinds := [], alts := [], laidByText := true, laidKinds := [.data, .data, .data, .sentinel, .sentinel, .sentinel, .sentinel], laidTests := true, laidLooks := .later }
def FnDocAnyIndexUptoCardSaid : Prop := Claim7.holds Tryz.pinned (.plain (OpenSpec.upto fnDocAnyIndexSpec)) fnDocAnyIndexUptoCard

/-- THE SECOND FORM's CARD OF 'laws.FnDocLookup'. -/
def fnDocLookupUptoCard : Claim7 := { stood := { row := fnDocLookupUptoRow, standIns := [], harness := (true, "af5a404a10bc8de3f00fe6373a3381aee51d783e141e951c31e06808f3c115cd"), looks := true }, kinds := [], alts := [], laidByText := true, laidKinds := [.data, .data, .data, .sentinel, .sentinel, .sentinel, .sentinel], laidTests := true, laidLooks := .later }
def FnDocLookupUptoCardSaid : Prop := Claim7.holds Tryz.pinned (.plain (OpenSpec.upto fnDocLookupSpec)) fnDocLookupUptoCard
end Rows
end Go.Proofs.YtbfhpjkahobgnaaGreatDoor
