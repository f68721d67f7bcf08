/-
  DERIVED. GIVEN WITH THE SEED: THE CARDS: each row of YtdcoingcpkhmiaaDoorRows.lean that lists a variable, with what it lists TIED to the program's text (the seventh form; the later family's looks); each row that meets fmt, with fmt's text TOLD by the authors' own Lean function (tested against real Go, not proved from fmt's source: count such statements apart). THE CARD IS WHAT COUNTS. Prove the row's statement (the work); the ties are given (YtdcoingcpkhmiaaDoorTie.lean); close each card by the builder's one call (the guide's Derived/Test/ToyasCard.lean, 'card_holds'). Laid BY PROGRAM, IN A SANDBOX (cutbox-door.mjs). By AI agents, Wed Nov 11 2026. No macro, syntax, notation, axiom, sorry.
-/
import Derived.Test.YtdcoingcpkhmiaaDoorRows
import GoSem.ClaimSeven
namespace Go.Proofs.YtdcoingcpkhmiaaDoor
namespace Rows

/-- THE TIED CARD OF 'laws.FnExtInts'. -/
def fnExtIntsCard : Claim7 := { stood := { row := fnExtIntsRow, standIns := [], harness := (true, "376d27846234096b2285bb4167d2b17d61646456bd4f41bfc340fd8624683763"), looks := true }, kinds := [], alts := [], laidByText := true, laidKinds := [.data, .data, .data, .sentinel, .sentinel], laidTests := true, laidLooks := .later }
def FnExtIntsCardSaid : Prop := Claim7.holds Tryd.pinned (.plain (OpenSpec.ofChange fnExtIntsSpec)) fnExtIntsCard

/-- THE SECOND FORM's CARD OF 'laws.FnExtInts'. -/
def fnExtIntsUptoCard : Claim7 := { stood := { row := fnExtIntsUptoRow, standIns := [], harness := (true, "376d27846234096b2285bb4167d2b17d61646456bd4f41bfc340fd8624683763"), looks := true }, kinds := [], alts := [], laidByText := true, laidKinds := [.data, .data, .data, .sentinel, .sentinel], laidTests := true, laidLooks := .later }
def FnExtIntsUptoCardSaid : Prop := Claim7.holds Tryd.pinned (.plain (OpenSpec.upto fnExtIntsSpec)) fnExtIntsUptoCard
end Rows
end Go.Proofs.YtdcoingcpkhmiaaDoor
