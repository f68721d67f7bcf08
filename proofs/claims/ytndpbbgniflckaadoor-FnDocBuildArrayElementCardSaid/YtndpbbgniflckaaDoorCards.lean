/-
  DERIVED. GIVEN WITH THE SEED: THE CARDS: each row of YtndpbbgniflckaaDoorRows.lean that lists a variable, with what it lists TIED to the program's text (the seventh form; the later family's looks); each row that meets fmt, with fmt's text TOLD by the authors' own Lean function (tested against real Go, not proved from fmt's source: count such statements apart). THE CARD IS WHAT COUNTS. Prove the row's statement (the work); the ties are given (YtndpbbgniflckaaDoorTie.lean); close each card by the builder's one call (the guide's Derived/Test/ToyasCard.lean, 'card_holds'). Laid BY PROGRAM, IN A SANDBOX (cutbox-door.mjs). By AI agents, Wed Nov 11 2026. No macro, syntax, notation, axiom, sorry.
-/
import Derived.Test.YtndpbbgniflckaaDoorRows
import GoSem.ClaimSeven
namespace Go.Proofs.YtndpbbgniflckaaDoor
namespace Rows

/-- THE TIED CARD OF 'laws.FnDocElement'. -/
def fnDocElementCard : Claim7 := { stood := { row := fnDocElementRow, standIns := [], harness := (true, "99c396c630ef43df50bb7e874caaffc8d7fa4de7c913ec6dab7d5e9b8f28bb93"), looks := true }, kinds := [], alts := [], laidByText := true, laidKinds := [.sentinel, .sentinel, .sentinel, .sentinel], laidTests := true, laidLooks := .later }
def FnDocElementCardSaid : Prop := Claim7.holds Tryd.pinned (.plain (OpenSpec.ofChange fnDocElementSpec)) fnDocElementCard

/-- THE TIED CARD OF 'laws.FnDocBuildArrayElement'. -/
def fnDocBuildArrayElementCard : Claim7 := { stood := { row := fnDocBuildArrayElementRow, standIns := [], harness := (true, "99c396c630ef43df50bb7e874caaffc8d7fa4de7c913ec6dab7d5e9b8f28bb93"), looks := true }, kinds := [], alts := [], laidByText := true, laidKinds := [.data, .data, .data], laidTests := true, laidLooks := .later }
def FnDocBuildArrayElementCardSaid : Prop := Claim7.holds Tryd.pinned (.plain (OpenSpec.ofChange fnDocBuildArrayElementSpec)) fnDocBuildArrayElementCard

/-- THE SECOND FORM's CARD OF 'laws.FnDocElement'. -/
def fnDocElementUptoCard : Claim7 := { stood := { row := fnDocElementUptoRow, standIns := [], harness := (true, "99c396c630ef43df50bb7e874caaffc8d7fa4de7c913ec6dab7d5e9b8f28bb93"), looks := true }, kinds := [], alts := [], laidByText := true, laidKinds := [.sentinel, .sentinel, .sentinel, .sentinel], laidTests := true, laidLooks := .later }
def FnDocElementUptoCardSaid : Prop := Claim7.holds Tryd.pinned (.plain (OpenSpec.upto fnDocElementSpec)) fnDocElementUptoCard

/-- THE SECOND FORM's CARD OF 'laws.FnDocBuildArrayElement'. -/
def fnDocBuildArrayElementUptoCard : Claim7 := { stood := { row := fnDocBuildArrayElementUptoRow, standIns := [], harness := (true, "99c396c630ef43df50bb7e874caaffc8d7fa4de7c913ec6dab7d5e9b8f28bb93"), looks := true }, kinds := [], alts := [], laidByText := true, laidKinds := [.data, .data, .data], laidTests := true, laidLooks := .later }
def FnDocBuildArrayElementUptoCardSaid : Prop := Claim7.holds Tryd.pinned (.plain (OpenSpec.upto fnDocBuildArrayElementSpec)) fnDocBuildArrayElementUptoCard
end Rows
end Go.Proofs.YtndpbbgniflckaaDoor
