/-
  DERIVED. GIVEN WITH THE SEED: THE CARDS: each row of YtanecebppagakaaGreatDoorRows.lean that lists a variable, with what it lists TIED to the program's text (the seventh form; the later family's looks); each row that meets fmt, with fmt's text TOLD by the authors' own Lean function (tested against real Go, not proved from fmt's source: count such statements apart). THE CARD IS WHAT COUNTS. Prove the row's statement (the work); the ties are given (YtanecebppagakaaGreatDoorTie.lean); close each card by the builder's one call (the guide's Derived/Test/ToyasCard.lean, 'card_holds'). Laid BY PROGRAM, IN A SANDBOX (cutbox-door.mjs). By AI agents, Wed Nov 11 2026. No macro, syntax, notation, axiom, sorry.
-/
import Derived.Test.YtanecebppagakaaGreatDoorRows
import GoSem.ClaimSeven
namespace Go.Proofs.YtanecebppagakaaGreatDoor
namespace Rows

/-- THE TIED CARD OF 'laws.FnDocAnyHeader'. -/
def fnDocAnyHeaderCard : Claim7 := { stood := { row := fnDocAnyHeaderRow, standIns := [], harness := (true, "f57aa1f65891b38353f98436155f0483f1914eb832f85c23ed87e663aff74ae8"), looks := true }, kinds := [], alts := [], laidByText := true, laidKinds := [.data, .data, .data, .sentinel, .sentinel, .sentinel, .sentinel], laidTests := true, laidLooks := .later }
def FnDocAnyHeaderCardSaid : Prop := Claim7.holds Tryz.pinned (.plain (OpenSpec.ofChange fnDocAnyHeaderSpec)) fnDocAnyHeaderCard

/-- THE TIED CARD OF 'laws.FnDocAnyLength'. -/
def fnDocAnyLengthCard : Claim7 := { stood := { row := fnDocAnyLengthRow, standIns := [], harness := (true, "f57aa1f65891b38353f98436155f0483f1914eb832f85c23ed87e663aff74ae8"), looks := true }, kinds := [], alts := [], laidByText := true, laidKinds := [.data, .data, .data, .sentinel, .sentinel, .sentinel, .sentinel], laidTests := true, laidLooks := .later }
def FnDocAnyLengthCardSaid : Prop := Claim7.holds Tryz.pinned (.plain (OpenSpec.ofChange fnDocAnyLengthSpec)) fnDocAnyLengthCard

/-- THE TIED CARD OF 'laws.FnDocNumber'. -/
def fnDocNumberCard : Claim7 := { stood := { row := fnDocNumberRow, standIns := [], harness := (true, "f57aa1f65891b38353f98436155f0483f1914eb832f85c23ed87e663aff74ae8"), looks := true }, kinds := [], alts := [], laidByText := true, laidKinds := [.data, .data, .data, .sentinel, .sentinel, .sentinel, .sentinel], laidTests := true, laidLooks := .later }
def FnDocNumberCardSaid : Prop := Claim7.holds Tryz.pinned (.plain (OpenSpec.ofChange fnDocNumberSpec)) fnDocNumberCard

/-- THE TIED CARD OF 'laws.FnDocShort'. -/
def fnDocShortCard : Claim7 := { stood := { row := fnDocShortRow, standIns := [], harness := (true, "f57aa1f65891b38353f98436155f0483f1914eb832f85c23ed87e663aff74ae8"), looks := true }, kinds := [], alts := [], laidByText := true, laidKinds := [.data, .data, .data, .sentinel, .sentinel, .sentinel, .sentinel], laidTests := true, laidLooks := .later }
def FnDocShortCardSaid : Prop := Claim7.holds Tryz.pinned (.plain (OpenSpec.ofChange fnDocShortSpec)) fnDocShortCard

/-- THE TIED CARD OF 'laws.FnDocReadBack'. -/
def fnDocReadBackCard : Claim7 := { stood := { row := fnDocReadBackRow, standIns := [], harness := (true, "f57aa1f65891b38353f98436155f0483f1914eb832f85c23ed87e663aff74ae8"), looks := true }, kinds := [], alts := [], laidByText := true, laidKinds := [.data, .data, .data, .sentinel, .sentinel, .sentinel, .sentinel], laidTests := true, laidLooks := .later }
def FnDocReadBackCardSaid : Prop := Claim7.holds Tryz.pinned (.plain (OpenSpec.ofChange fnDocReadBackSpec)) fnDocReadBackCard

/-- THE TIED CARD OF 'laws.FnDocLookup'. -/
def fnDocLookupCard : Claim7 := { stood := { row := fnDocLookupRow, standIns := [], harness := (true, "f57aa1f65891b38353f98436155f0483f1914eb832f85c23ed87e663aff74ae8"), looks := true }, kinds := [], alts := [], laidByText := true, laidKinds := [.data, .data, .data, .sentinel, .sentinel, .sentinel, .sentinel], laidTests := true, laidLooks := .later }
def FnDocLookupCardSaid : Prop := Claim7.holds Tryz.pinned (.plain (OpenSpec.ofChange fnDocLookupSpec)) fnDocLookupCard

/-- THE TIED CARD OF 'laws.FnDocAnyIndex'. -/
def fnDocAnyIndexCard : Claim7 := { stood := { row := fnDocAnyIndexRow, standIns := [], harness := (true, "f57aa1f65891b38353f98436155f0483f1914eb832f85c23ed87e663aff74ae8"), looks := true }, kinds := [], alts := [], laidByText := true, laidKinds := [.data, .data, .data, .sentinel, .sentinel, .sentinel, .sentinel], laidTests := true, laidLooks := .later }
def FnDocAnyIndexCardSaid : Prop := Claim7.holds Tryz.pinned (.plain (OpenSpec.ofChange fnDocAnyIndexSpec)) fnDocAnyIndexCard

/-- THE SECOND FORM's CARD OF 'laws.FnDocAnyHeader'. -/
def fnDocAnyHeaderUptoCard : Claim7 := { stood := { row := fnDocAnyHeaderUptoRow, standIns := [], harness := (true, "f57aa1f65891b38353f98436155f0483f1914eb832f85c23ed87e663aff74ae8"), looks := true }, kinds := [], alts := [], laidByText := true, laidKinds := [.data, .data, .data, .sentinel, .sentinel, .sentinel, .sentinel], laidTests := true, laidLooks := .later }
def FnDocAnyHeaderUptoCardSaid : Prop := Claim7.holds Tryz.pinned (.plain (OpenSpec.upto fnDocAnyHeaderSpec)) fnDocAnyHeaderUptoCard

/-- THE SECOND FORM's CARD OF 'laws.FnDocAnyLength'. -/
def fnDocAnyLengthUptoCard : Claim7 := { stood := { row := fnDocAnyLengthUptoRow, standIns := [], harness := (true, "f57aa1f65891b38353f98436155f0483f1914eb832f85c23ed87e663aff74ae8"), looks := true }, kinds := [], alts := [], laidByText := true, laidKinds := [.data, .data, .data, .sentinel, .sentinel, .sentinel, .sentinel], laidTests := true, laidLooks := .later }
def FnDocAnyLengthUptoCardSaid : Prop := Claim7.holds Tryz.pinned (.plain (OpenSpec.upto fnDocAnyLengthSpec)) fnDocAnyLengthUptoCard

/-- THE SECOND FORM's CARD OF 'laws.FnDocNumber'. -/
def fnDocNumberUptoCard : Claim7 := { stood := { row := fnDocNumberUptoRow, standIns := [], harness := (true, "f57aa1f65891b38353f98436155f0483f1914eb832f85c23ed87e663aff74ae8"), looks := true }, kinds := [], alts := [], laidByText := true, laidKinds := [.data, .data, .data, .sentinel, .sentinel, .sentinel, .sentinel], laidTests := true, laidLooks := .later }
def FnDocNumberUptoCardSaid : Prop := Claim7.holds Tryz.pinned (.plain (OpenSpec.upto fnDocNumberSpec)) fnDocNumberUptoCard

/-- THE SECOND FORM's CARD OF 'laws.FnDocShort'. -/
def fnDocShortUptoCard : Claim7 := { stood := { row := fnDocShortUptoRow, standIns := [], harness := (true, "f57aa1f65891b38353f98436155f0483f1914eb832f85c23ed87e663aff74ae8"), looks := true }, kinds := [], alts := [], laidByText := true, laidKinds := [.data, .data, .data, .sentinel, .sentinel, .sentinel, .sentinel], laidTests := true, laidLooks := .later }
def FnDocShortUptoCardSaid : Prop := Claim7.holds Tryz.pinned (.plain (OpenSpec.upto fnDocShortSpec)) fnDocShortUptoCard

/-- THE SECOND FORM's CARD OF 'laws.FnDocReadBack'. -/
def fnDocReadBackUptoCard : Claim7 := { stood := { row := fnDocReadBackUptoRow, standIns := [], harness := (true, "f57aa1f65891b38353f98436155f0483f1914eb832f85c23ed87e663aff74ae8"), looks := true }, kinds := [], alts := [], laidByText := true, laidKinds := [.data, .data, .data, .sentinel, .sentinel, .sentinel, .sentinel], laidTests := true, laidLooks := .later }
def FnDocReadBackUptoCardSaid : Prop := Claim7.holds Tryz.pinned (.plain (OpenSpec.upto fnDocReadBackSpec)) fnDocReadBackUptoCard

/-- THE SECOND FORM's CARD OF 'laws.FnDocLookup'. -/
def fnDocLookupUptoCard : Claim7 := { stood := { row := fnDocLookupUptoRow, standIns := [], harness := (true, "f57aa1f65891b38353f98436155f0483f1914eb832f85c23ed87e663aff74ae8"), looks := true }, kinds := [], alts := [], laidByText := true, laidKinds := [.data, .data, .data, .sentinel, .sentinel, .sentinel, .sentinel], laidTests := true, laidLooks := .later }
def FnDocLookupUptoCardSaid : Prop := Claim7.holds Tryz.pinned (.plain (OpenSpec.upto fnDocLookupSpec)) fnDocLookupUptoCard

/-- THE SECOND FORM's CARD OF 'laws.FnDocAnyIndex'. -/
def fnDocAnyIndexUptoCard : Claim7 := { stood := { row := fnDocAnyIndexUptoRow, standIns := [], harness := (true, "f57aa1f65891b38353f98436155f0483f1914eb832f85c23ed87e663aff74ae8"), looks := true }, kinds := [], alts := [], laidByText := true, laidKinds := [.data, .data, .data, .sentinel, .sentinel, .sentinel, .sentinel], laidTests := true, laidLooks := .later }
def FnDocAnyIndexUptoCardSaid : Prop := Claim7.holds Tryz.pinned (.plain (OpenSpec.upto fnDocAnyIndexSpec)) fnDocAnyIndexUptoCard
end Rows
end Go.Proofs.YtanecebppagakaaGreatDoor
