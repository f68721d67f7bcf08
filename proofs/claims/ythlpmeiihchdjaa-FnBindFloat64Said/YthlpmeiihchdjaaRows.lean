/-
  NARROWER THAN 'FOR EVERY INPUT', by the rows' own cells (each row's printed sentence says how): FnBindFloat64: loops.
  DERIVED. THE GIVEN ROWS OF THIS SEAT. 6 by the template 'for every input the law returns true; each argument reads behind the call as it read before'; 0 by the template 'total and deterministic' (their statements: YthlpmeiihchdjaaTotals.lean).
  GIVEN WITH THE SEED: the statements are not yours to turn. If you find one false, say at which input.
  Laid BY PROGRAM, IN A SANDBOX (cutbox-rows.mjs): the forced cells as the released guide's own fill.sh prints them over the translation 52ec8b97d9f831f1… (all of the seat's roots in one cut). By AI agents, Wed Nov 11 2026. No macro, syntax, notation, axiom, sorry.
-/
import Derived.Test.YthlpmeiihchdjaaChecked
import GoSem.Claim
import GoSem.ClaimJoined
import GoSem.ClaimMapViews
import Derived.JoinedTies
import Derived.KernelRfl
namespace Go.Proofs.Ythlpmeiihchdjaa
/- THE CELL 'sum', in the pinned program and in every row, IS THE sha256 OF THE DUMP (.gsa) THAT YthlpmeiihchdjaaProg.lean LOADS. Nothing in Lean hashes anything: it is a label: what it is worth is what the hold of that sum in a sandbox is worth. -/
noncomputable def Try.pinned : Pinned := { name := "ythlpmeiihchdjaa", sum := "52ec8b97d9f831f1aec00af75db4092eb081bb5a311f1b2a81b727e7b17bee97", checked := Try.checked }
namespace Rows
def none {H : Type} : Left H := { results := [], args := [] }

/-- 'laws.FnBindKinds': WHATEVER THE INPUT: true; the input reads as it did. -/
def fnBindKindsSpec : ChangeSpec := { name := "fnBindKinds", fn := fun _ => fun
  | [d] => { results := [.lit (.bool true)], args := [d] }
  | _ => none }
def fnBindKindsRow : OpenClaim := { program := "ythlpmeiihchdjaa", sum := "52ec8b97d9f831f1aec00af75db4092eb081bb5a311f1b2a81b727e7b17bee97", func := "pub-gunnysack/laws.FnBindKinds", spec := "fnBindKinds", apart := false }
def FnBindKindsSaid : Prop := fnBindKindsRow.holds Try.pinned (OpenSpec.ofChange fnBindKindsSpec)

/-- ITS FALSE NEIGHBOUR: 'it returns false'. Refute it at one input. -/
def fnBindKindsWrong : ChangeSpec := { name := "fnBindKinds", fn := fun _ => fun
  | [d] => { results := [.lit (.bool false)], args := [d] }
  | _ => none }
def FnBindKindsWrongFalsely : Prop := fnBindKindsRow.holds Try.pinned (OpenSpec.ofChange fnBindKindsWrong)

/-- 'laws.FnDocEndBad': WHATEVER THE INPUT: true; the input reads as it did. -/
def fnDocEndBadSpec : ChangeSpec := { name := "fnDocEndBad", fn := fun _ => fun
  | [d1, d2] => { results := [.lit (.bool true)], args := [d1, d2] }
  | _ => none }
def fnDocEndBadRow : OpenClaim := { program := "ythlpmeiihchdjaa", sum := "52ec8b97d9f831f1aec00af75db4092eb081bb5a311f1b2a81b727e7b17bee97", func := "pub-gunnysack/laws.FnDocEndBad", spec := "fnDocEndBad", named := ["encoding/binary.LittleEndian"], apart := false }
def FnDocEndBadSaid : Prop := fnDocEndBadRow.holds Try.pinned (OpenSpec.ofChange fnDocEndBadSpec)

/-- ITS FALSE NEIGHBOUR: 'it returns false'. Refute it at one input. -/
def fnDocEndBadWrong : ChangeSpec := { name := "fnDocEndBad", fn := fun _ => fun
  | [d1, d2] => { results := [.lit (.bool false)], args := [d1, d2] }
  | _ => none }
def FnDocEndBadWrongFalsely : Prop := fnDocEndBadRow.holds Try.pinned (OpenSpec.ofChange fnDocEndBadWrong)

/-- 'laws.FnExtWrappers': WHATEVER THE INPUT: true; the input reads as it did. -/
def fnExtWrappersSpec : ChangeSpec := { name := "fnExtWrappers", fn := fun _ => fun
  | [d] => { results := [.lit (.bool true)], args := [d] }
  | _ => none }
def fnExtWrappersRow : OpenClaim := { program := "ythlpmeiihchdjaa", sum := "52ec8b97d9f831f1aec00af75db4092eb081bb5a311f1b2a81b727e7b17bee97", func := "pub-gunnysack/laws.FnExtWrappers", spec := "fnExtWrappers", apart := false }
def FnExtWrappersSaid : Prop := fnExtWrappersRow.holds Try.pinned (OpenSpec.ofChange fnExtWrappersSpec)

/-- ITS FALSE NEIGHBOUR: 'it returns false'. Refute it at one input. -/
def fnExtWrappersWrong : ChangeSpec := { name := "fnExtWrappers", fn := fun _ => fun
  | [d] => { results := [.lit (.bool false)], args := [d] }
  | _ => none }
def FnExtWrappersWrongFalsely : Prop := fnExtWrappersRow.holds Try.pinned (OpenSpec.ofChange fnExtWrappersWrong)

/-- 'laws.FnExtRegexes': WHATEVER THE INPUT: true; the input reads as it did. -/
def fnExtRegexesSpec : ChangeSpec := { name := "fnExtRegexes", fn := fun _ => fun
  | [d1, d2] => { results := [.lit (.bool true)], args := [d1, d2] }
  | _ => none }
def fnExtRegexesRow : OpenClaim := { program := "ythlpmeiihchdjaa", sum := "52ec8b97d9f831f1aec00af75db4092eb081bb5a311f1b2a81b727e7b17bee97", func := "pub-gunnysack/laws.FnExtRegexes", spec := "fnExtRegexes", apart := false }
def FnExtRegexesSaid : Prop := fnExtRegexesRow.holds Try.pinned (OpenSpec.ofChange fnExtRegexesSpec)

/-- ITS FALSE NEIGHBOUR: 'it returns false'. Refute it at one input. -/
def fnExtRegexesWrong : ChangeSpec := { name := "fnExtRegexes", fn := fun _ => fun
  | [d1, d2] => { results := [.lit (.bool false)], args := [d1, d2] }
  | _ => none }
def FnExtRegexesWrongFalsely : Prop := fnExtRegexesRow.holds Try.pinned (OpenSpec.ofChange fnExtRegexesWrong)

/-- 'laws.FnDocHeader': WHATEVER THE INPUT: true; the input reads as it did. -/
def fnDocHeaderSpec : ChangeSpec := { name := "fnDocHeader", fn := fun _ => fun
  | [d1, d2, d3, d4] => { results := [.lit (.bool true)], args := [d1, d2, d3, d4] }
  | _ => none }
def fnDocHeaderRow : OpenClaim := { program := "ythlpmeiihchdjaa", sum := "52ec8b97d9f831f1aec00af75db4092eb081bb5a311f1b2a81b727e7b17bee97", func := "pub-gunnysack/laws.FnDocHeader", spec := "fnDocHeader", inPlace := ["internal/bytealg.IndexByte"], apart := false }
def FnDocHeaderSaid : Prop := fnDocHeaderRow.holds Try.pinned (OpenSpec.ofChange fnDocHeaderSpec)

/-- ITS FALSE NEIGHBOUR: 'it returns false'. Refute it at one input. -/
def fnDocHeaderWrong : ChangeSpec := { name := "fnDocHeader", fn := fun _ => fun
  | [d1, d2, d3, d4] => { results := [.lit (.bool false)], args := [d1, d2, d3, d4] }
  | _ => none }
def FnDocHeaderWrongFalsely : Prop := fnDocHeaderRow.holds Try.pinned (OpenSpec.ofChange fnDocHeaderWrong)

/-- 'laws.FnBindFloat64': WHATEVER THE INPUT: true; the input reads as it did. -/
def fnBindFloat64Spec : ChangeSpec := { name := "fnBindFloat64", fn := fun _ => fun
  | [d] => { results := [.lit (.bool true)], args := [d] }
  | _ => none }
def fnBindFloat64Row : OpenClaim := { program := "ythlpmeiihchdjaa", sum := "52ec8b97d9f831f1aec00af75db4092eb081bb5a311f1b2a81b727e7b17bee97", func := "pub-gunnysack/laws.FnBindFloat64", spec := "fnBindFloat64", inPlace := ["math.Float64frombits", "math.Float64bits"], recurses := true, named := ["encoding/binary.LittleEndian"], loops := true, apart := false }
def FnBindFloat64Said : Prop := fnBindFloat64Row.holds Try.pinned (OpenSpec.ofChange fnBindFloat64Spec)

/-- ITS FALSE NEIGHBOUR: 'it returns false'. Refute it at one input. -/
def fnBindFloat64Wrong : ChangeSpec := { name := "fnBindFloat64", fn := fun _ => fun
  | [d] => { results := [.lit (.bool false)], args := [d] }
  | _ => none }
def FnBindFloat64WrongFalsely : Prop := fnBindFloat64Row.holds Try.pinned (OpenSpec.ofChange fnBindFloat64Wrong)

/- THE SECOND FORM. 'bulk': how many values and letters a reading holds, each counted each time it is reached (what is shared counts as often as it is met; a slice's spare places count too). A statement '..UptoSaid' is the law's where the arguments, and the package variables that the reading takes, are together of bulk at most 1048576: NARROWER than '..Said'. Prove '..Said' where nothing that the law and all that it calls make is longer than what came in: it says more and counts as full. Else prove '..UptoSaid'. A law counts once. -/
mutual
def uptoBulk {H : Type} : DataW H → Nat
  | .lit (.string bytes) => bytes.length + 1
  | .lit _ => 1
  | .nil => 1
  | .ptr d => uptoBulk d + 1
  | .slice elems spare => uptoBulkAll elems + uptoBulkAll spare + 1
  | .agg parts => uptoBulkAll parts + 1
  | .iface _ d => uptoBulk d + 1
  | .map entries => uptoBulkEntries entries + 1
  | .held _ => 1
def uptoBulkAll {H : Type} : List (DataW H) → Nat
  | [] => 0
  | d :: r => uptoBulk d + uptoBulkAll r
def uptoBulkEntries {H : Type} : List (Lit × DataW H) → Nat
  | [] => 0
  | x :: r => uptoBulkEntry x + uptoBulkEntries r
def uptoBulkEntry {H : Type} : Lit × DataW H → Nat
  | (.string bytes, d) => bytes.length + uptoBulk d + 1
  | (_, d) => uptoBulk d + 1
 end
def uptoSmall : (H : Type) → List (DataW H) → Bool := fun _ ds => decide (uptoBulkAll ds ≤ 1048576)
def OpenSpec.upto (s : _root_.Go.ChangeSpec) : _root_.Go.OpenSpec := { _root_.Go.OpenSpec.ofChange s with cond := some uptoSmall }

/-- 'laws.FnBindKinds', WHERE WHAT IT READS IS OF BULK AT MOST 1048576: true; the input reads as it did. -/
def fnBindKindsUptoRow : OpenClaim := { program := "ythlpmeiihchdjaa", sum := "52ec8b97d9f831f1aec00af75db4092eb081bb5a311f1b2a81b727e7b17bee97", func := "pub-gunnysack/laws.FnBindKinds", spec := "fnBindKinds", apart := false, narrowed := true }
def FnBindKindsUptoSaid : Prop := fnBindKindsUptoRow.holds Try.pinned (OpenSpec.upto fnBindKindsSpec)

/-- 'laws.FnDocEndBad', WHERE WHAT IT READS IS OF BULK AT MOST 1048576: true; the input reads as it did. -/
def fnDocEndBadUptoRow : OpenClaim := { program := "ythlpmeiihchdjaa", sum := "52ec8b97d9f831f1aec00af75db4092eb081bb5a311f1b2a81b727e7b17bee97", func := "pub-gunnysack/laws.FnDocEndBad", spec := "fnDocEndBad", named := ["encoding/binary.LittleEndian"], apart := false, narrowed := true }
def FnDocEndBadUptoSaid : Prop := fnDocEndBadUptoRow.holds Try.pinned (OpenSpec.upto fnDocEndBadSpec)

/-- 'laws.FnExtWrappers', WHERE WHAT IT READS IS OF BULK AT MOST 1048576: true; the input reads as it did. -/
def fnExtWrappersUptoRow : OpenClaim := { program := "ythlpmeiihchdjaa", sum := "52ec8b97d9f831f1aec00af75db4092eb081bb5a311f1b2a81b727e7b17bee97", func := "pub-gunnysack/laws.FnExtWrappers", spec := "fnExtWrappers", apart := false, narrowed := true }
def FnExtWrappersUptoSaid : Prop := fnExtWrappersUptoRow.holds Try.pinned (OpenSpec.upto fnExtWrappersSpec)

/-- 'laws.FnExtRegexes', WHERE WHAT IT READS IS OF BULK AT MOST 1048576: true; the input reads as it did. -/
def fnExtRegexesUptoRow : OpenClaim := { program := "ythlpmeiihchdjaa", sum := "52ec8b97d9f831f1aec00af75db4092eb081bb5a311f1b2a81b727e7b17bee97", func := "pub-gunnysack/laws.FnExtRegexes", spec := "fnExtRegexes", apart := false, narrowed := true }
def FnExtRegexesUptoSaid : Prop := fnExtRegexesUptoRow.holds Try.pinned (OpenSpec.upto fnExtRegexesSpec)

/-- 'laws.FnDocHeader', WHERE WHAT IT READS IS OF BULK AT MOST 1048576: true; the input reads as it did. -/
def fnDocHeaderUptoRow : OpenClaim := { program := "ythlpmeiihchdjaa", sum := "52ec8b97d9f831f1aec00af75db4092eb081bb5a311f1b2a81b727e7b17bee97", func := "pub-gunnysack/laws.FnDocHeader", spec := "fnDocHeader", inPlace := ["internal/bytealg.IndexByte"], apart := false, narrowed := true }
def FnDocHeaderUptoSaid : Prop := fnDocHeaderUptoRow.holds Try.pinned (OpenSpec.upto fnDocHeaderSpec)

/-- 'laws.FnBindFloat64', WHERE WHAT IT READS IS OF BULK AT MOST 1048576: true; the input reads as it did. -/
def fnBindFloat64UptoRow : OpenClaim := { program := "ythlpmeiihchdjaa", sum := "52ec8b97d9f831f1aec00af75db4092eb081bb5a311f1b2a81b727e7b17bee97", func := "pub-gunnysack/laws.FnBindFloat64", spec := "fnBindFloat64", inPlace := ["math.Float64frombits", "math.Float64bits"], recurses := true, named := ["encoding/binary.LittleEndian"], loops := true, apart := false, narrowed := true }
def FnBindFloat64UptoSaid : Prop := fnBindFloat64UptoRow.holds Try.pinned (OpenSpec.upto fnBindFloat64Spec)

end Rows
end Go.Proofs.Ythlpmeiihchdjaa
