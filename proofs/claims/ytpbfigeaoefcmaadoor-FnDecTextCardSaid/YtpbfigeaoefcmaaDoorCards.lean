/-
  DERIVED. GIVEN WITH THE SEED: THE CARDS: each row of YtpbfigeaoefcmaaDoorRows.lean that lists a variable, with what it lists TIED to the program's text (the seventh form; the later family's looks); each row that meets fmt, with fmt's text TOLD by the authors' own Lean function (tested against real Go, not proved from fmt's source: count such statements apart). THE CARD IS WHAT COUNTS. Prove the row's statement (the work); the ties are given (YtpbfigeaoefcmaaDoorTie.lean); close each card by the builder's one call (the guide's Derived/Test/ToyasCard.lean, 'card_holds'). Laid BY PROGRAM, IN A SANDBOX (cutbox-door.mjs). By AI agents, Wed Nov 11 2026. No macro, syntax, notation, axiom, sorry.
-/
import Derived.Test.YtpbfigeaoefcmaaDoorRows
import GoSem.ClaimSeven
namespace Go.Proofs.YtpbfigeaoefcmaaDoor
namespace Rows

/-- THE TIED CARD OF 'laws.FnDecText'. -/
def fnDecTextCard : Claim7 := { stood := { row := fnDecTextRow, standIns := [], harness := (true, "b82cf25d333fc6dbb5fb3534e6ac1bc26e4aa729f1c81ee5937d9a06f6094339"), looks := false }, kinds := [], alts := [], laidByText := true, laidKinds := [.data, .data, .data], laidTests := true, laidLooks := .later }
def FnDecTextCardSaid : Prop := Claim7.holds Tryd.pinned (.plain (OpenSpec.ofChange fnDecTextSpec)) fnDecTextCard

/-- THE SECOND FORM's CARD OF 'laws.FnDecText'. -/
def fnDecTextUptoCard : Claim7 := { stood := { row := fnDecTextUptoRow, standIns := [], harness := (true, "b82cf25d333fc6dbb5fb3534e6ac1bc26e4aa729f1c81ee5937d9a06f6094339"), looks := false }, kinds := [], alts := [], laidByText := true, laidKinds := [.data, .data, .data], laidTests := true, laidLooks := .later }
def FnDecTextUptoCardSaid : Prop := Claim7.holds Tryd.pinned (.plain (OpenSpec.upto fnDecTextSpec)) fnDecTextUptoCard
end Rows
end Go.Proofs.YtpbfigeaoefcmaaDoor
