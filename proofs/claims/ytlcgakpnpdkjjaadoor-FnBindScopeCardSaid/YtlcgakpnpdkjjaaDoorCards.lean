/-
  DERIVED. GIVEN WITH THE SEED: THE CARDS: each row of YtlcgakpnpdkjjaaDoorRows.lean that lists a variable, with what it lists TIED to the program's text (the seventh form; the later family's looks); each row that meets fmt, with fmt's text TOLD by the authors' own Lean function (tested against real Go, not proved from fmt's source: count such statements apart). THE CARD IS WHAT COUNTS. Prove the row's statement (the work); the ties are given (YtlcgakpnpdkjjaaDoorTie.lean); close each card by the builder's one call (the guide's Derived/Test/ToyasCard.lean, 'card_holds'). Laid BY PROGRAM, IN A SANDBOX (cutbox-door.mjs). By AI agents, Wed Nov 11 2026. No macro, syntax, notation, axiom, sorry.
-/
import Derived.Test.YtlcgakpnpdkjjaaDoorRows
import GoSem.ClaimSeven
namespace Go.Proofs.YtlcgakpnpdkjjaaDoor
namespace Rows

/-- THE TIED CARD OF 'laws.FnBindScope'. -/
def fnBindScopeCard : Claim7 := { stood := { row := fnBindScopeRow, standIns := [], harness := (true, "e085f577fc8553d2b7c1aa885713225a968cf31894eb7f62eec935f32cf3c92b"), looks := true }, kinds := [], alts := [], laidByText := true, laidKinds := [.sentinel, .sentinel, .sentinel, .sentinel], laidTests := true, laidLooks := .later }
def FnBindScopeCardSaid : Prop := Claim7.holds Tryd.pinned (.plain (OpenSpec.ofChange fnBindScopeSpec)) fnBindScopeCard

/-- THE TIED CARD OF 'laws.FnBindRoads'. -/
def fnBindRoadsCard : Claim7 := { stood := { row := fnBindRoadsRow, standIns := [], harness := (true, "e085f577fc8553d2b7c1aa885713225a968cf31894eb7f62eec935f32cf3c92b"), looks := true }, kinds := [], alts := [], laidByText := true, laidKinds := [.sentinel, .sentinel, .sentinel, .sentinel], laidTests := true, laidLooks := .later }
def FnBindRoadsCardSaid : Prop := Claim7.holds Tryd.pinned (.plain (OpenSpec.ofChange fnBindRoadsSpec)) fnBindRoadsCard

/-- THE SECOND FORM's CARD OF 'laws.FnBindScope'. -/
def fnBindScopeUptoCard : Claim7 := { stood := { row := fnBindScopeUptoRow, standIns := [], harness := (true, "e085f577fc8553d2b7c1aa885713225a968cf31894eb7f62eec935f32cf3c92b"), looks := true }, kinds := [], alts := [], laidByText := true, laidKinds := [.sentinel, .sentinel, .sentinel, .sentinel], laidTests := true, laidLooks := .later }
def FnBindScopeUptoCardSaid : Prop := Claim7.holds Tryd.pinned (.plain (OpenSpec.upto fnBindScopeSpec)) fnBindScopeUptoCard

/-- THE SECOND FORM's CARD OF 'laws.FnBindRoads'. -/
def fnBindRoadsUptoCard : Claim7 := { stood := { row := fnBindRoadsUptoRow, standIns := [], harness := (true, "e085f577fc8553d2b7c1aa885713225a968cf31894eb7f62eec935f32cf3c92b"), looks := true }, kinds := [], alts := [], laidByText := true, laidKinds := [.sentinel, .sentinel, .sentinel, .sentinel], laidTests := true, laidLooks := .later }
def FnBindRoadsUptoCardSaid : Prop := Claim7.holds Tryd.pinned (.plain (OpenSpec.upto fnBindRoadsSpec)) fnBindRoadsUptoCard
end Rows
end Go.Proofs.YtlcgakpnpdkjjaaDoor
