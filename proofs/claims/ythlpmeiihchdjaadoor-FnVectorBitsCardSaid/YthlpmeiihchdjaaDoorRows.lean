/-
  NARROWER THAN 'FOR EVERY INPUT', by the rows' own cells (each row's printed sentence says how): FnExtIDs: laid · FnBindID: laid · FnVectorBits: laid.
  DERIVED. THE GIVEN ROWS OF THIS SEAT. 3 by the template 'for every input the law returns true; each argument reads behind the call as it read before'; 0 by the template 'total and deterministic' (their statements: YthlpmeiihchdjaaDoorTotals.lean).
  GIVEN WITH THE SEED: the statements are not yours to turn. If you find one false, say at which input.
  Laid BY PROGRAM, IN A SANDBOX (cutbox-rows.mjs): the forced cells as the released guide's own fill.sh prints them over the translation 8a2d75035243cb23… (all of the seat's roots in one cut). By AI agents, Wed Nov 11 2026. No macro, syntax, notation, axiom, sorry.
-/
import Derived.Test.YthlpmeiihchdjaaDoorChecked
import GoSem.Claim
import GoSem.ClaimJoined
import GoSem.ClaimMapViews
import Derived.JoinedTies
import Derived.KernelRfl
namespace Go.Proofs.YthlpmeiihchdjaaDoor
/- THE CELL 'sum', in the pinned program and in every row, IS THE sha256 OF THE DUMP (.gsa) THAT YthlpmeiihchdjaaDoorProg.lean LOADS. Nothing in Lean hashes anything: it is a label: what it is worth is what the hold of that sum in a sandbox is worth. -/
noncomputable def Tryd.pinned : Pinned := { name := "ythlpmeiihchdjaadoor", sum := "8a2d75035243cb234e4b70e8a129996c1c27524681b0f9c38de693603990cc5a", checked := Tryd.checked }
namespace Rows
def none {H : Type} : Left H := { results := [], args := [] }

/- WHAT THE LISTED PACKAGE-LEVEL VARIABLES READ AS WHEN THE CALL BEGINS. Each datum BY PROGRAM (the guide's laid-datum.mjs) off the statement by which the dump's own 'gosem.cut.vars' lays the variable. In a bare row this is a premise. The card (YthlpmeiihchdjaaDoorCards.lean) ties it to the program's text. -/
def laid_encoding_hex_ErrLength {H : Type} : DataW H := .iface "*errors.errorString" (.ptr (.agg [.lit (.string [101, 110, 99, 111, 100, 105, 110, 103, 47, 104, 101, 120, 58, 32, 111, 100, 100, 32, 108, 101, 110, 103, 116, 104, 32, 104, 101, 120, 32, 115, 116, 114, 105, 110, 103])]))
def laid_pub_gunnysack_pub_bson_ErrInvalidHex {H : Type} : DataW H := .iface "*errors.errorString" (.ptr (.agg [.lit (.string [116, 104, 101, 32, 112, 114, 111, 118, 105, 100, 101, 100, 32, 104, 101, 120, 32, 115, 116, 114, 105, 110, 103, 32, 105, 115, 32, 110, 111, 116, 32, 97, 32, 118, 97, 108, 105, 100, 32, 79, 98, 106, 101, 99, 116, 73, 68])]))
def laid_pub_gunnysack_pub_bson_NilObjectID {H : Type} : DataW H := .agg [.lit (.int .u8 0), .lit (.int .u8 0), .lit (.int .u8 0), .lit (.int .u8 0), .lit (.int .u8 0), .lit (.int .u8 0), .lit (.int .u8 0), .lit (.int .u8 0), .lit (.int .u8 0), .lit (.int .u8 0), .lit (.int .u8 0), .lit (.int .u8 0)]
def laid_pub_gunnysack_pub_bson_errInsufficientVectorData {H : Type} : DataW H := .iface "*errors.errorString" (.ptr (.agg [.lit (.string [105, 110, 115, 117, 102, 102, 105, 99, 105, 101, 110, 116, 32, 100, 97, 116, 97])]))
def laid_pub_gunnysack_pub_bson_errNonZeroVectorPadding {H : Type} : DataW H := .iface "*errors.errorString" (.ptr (.agg [.lit (.string [112, 97, 100, 100, 105, 110, 103, 32, 109, 117, 115, 116, 32, 98, 101, 32, 48])]))
def laid_pub_gunnysack_pub_bson_errVectorPaddingTooLarge {H : Type} : DataW H := .iface "*errors.errorString" (.ptr (.agg [.lit (.string [112, 97, 100, 100, 105, 110, 103, 32, 99, 97, 110, 110, 111, 116, 32, 98, 101, 32, 108, 97, 114, 103, 101, 114, 32, 116, 104, 97, 110, 32, 55])]))

/-- 'laws.FnExtIDs': WHATEVER THE INPUT: true; the input reads as it did. -/
def fnExtIDsSpec : ChangeSpec := { name := "fnExtIDs", fn := fun _ => fun
  | [d] => { results := [.lit (.bool true)], args := [d] }
  | _ => none }
def fnExtIDsRow : OpenClaim := { program := "ythlpmeiihchdjaadoor", sum := "8a2d75035243cb234e4b70e8a129996c1c27524681b0f9c38de693603990cc5a", func := "pub-gunnysack/laws.FnExtIDs", spec := "fnExtIDs", named := ["pub-gunnysack/pub/bson.NilObjectID", "pub-gunnysack/pub/bson.ErrInvalidHex", "encoding/hex.ErrLength"], apart := false, laid := [("encoding/hex.ErrLength", laid_encoding_hex_ErrLength), ("pub-gunnysack/pub/bson.ErrInvalidHex", laid_pub_gunnysack_pub_bson_ErrInvalidHex), ("pub-gunnysack/pub/bson.NilObjectID", laid_pub_gunnysack_pub_bson_NilObjectID)] }
def FnExtIDsSaid : Prop := fnExtIDsRow.holds Tryd.pinned (OpenSpec.ofChange fnExtIDsSpec)

/-- ITS FALSE NEIGHBOUR: 'it returns false'. Refute it at one input. -/
def fnExtIDsWrong : ChangeSpec := { name := "fnExtIDs", fn := fun _ => fun
  | [d] => { results := [.lit (.bool false)], args := [d] }
  | _ => none }
def FnExtIDsWrongFalsely : Prop := fnExtIDsRow.holds Tryd.pinned (OpenSpec.ofChange fnExtIDsWrong)

/-- 'laws.FnBindID': WHATEVER THE INPUT: true; the input reads as it did. -/
def fnBindIDSpec : ChangeSpec := { name := "fnBindID", fn := fun _ => fun
  | [d1, d2] => { results := [.lit (.bool true)], args := [d1, d2] }
  | _ => none }
def fnBindIDRow : OpenClaim := { program := "ythlpmeiihchdjaadoor", sum := "8a2d75035243cb234e4b70e8a129996c1c27524681b0f9c38de693603990cc5a", func := "pub-gunnysack/laws.FnBindID", spec := "fnBindID", named := ["pub-gunnysack/pub/bson.NilObjectID", "pub-gunnysack/pub/bson.ErrInvalidHex", "encoding/hex.ErrLength"], apart := false, laid := [("encoding/hex.ErrLength", laid_encoding_hex_ErrLength), ("pub-gunnysack/pub/bson.ErrInvalidHex", laid_pub_gunnysack_pub_bson_ErrInvalidHex), ("pub-gunnysack/pub/bson.NilObjectID", laid_pub_gunnysack_pub_bson_NilObjectID)] }
def FnBindIDSaid : Prop := fnBindIDRow.holds Tryd.pinned (OpenSpec.ofChange fnBindIDSpec)

/-- ITS FALSE NEIGHBOUR: 'it returns false'. Refute it at one input. -/
def fnBindIDWrong : ChangeSpec := { name := "fnBindID", fn := fun _ => fun
  | [d1, d2] => { results := [.lit (.bool false)], args := [d1, d2] }
  | _ => none }
def FnBindIDWrongFalsely : Prop := fnBindIDRow.holds Tryd.pinned (OpenSpec.ofChange fnBindIDWrong)

/-- 'laws.FnVectorBits': WHATEVER THE INPUT: true; the input reads as it did. -/
def fnVectorBitsSpec : ChangeSpec := { name := "fnVectorBits", fn := fun _ => fun
  | [d1, d2] => { results := [.lit (.bool true)], args := [d1, d2] }
  | _ => none }
def fnVectorBitsRow : OpenClaim := { program := "ythlpmeiihchdjaadoor", sum := "8a2d75035243cb234e4b70e8a129996c1c27524681b0f9c38de693603990cc5a", func := "pub-gunnysack/laws.FnVectorBits", spec := "fnVectorBits", inPlace := ["math.Float32bits", "math.Float32frombits"], named := ["pub-gunnysack/pub/bson.errVectorPaddingTooLarge", "pub-gunnysack/pub/bson.errNonZeroVectorPadding", "encoding/binary.LittleEndian", "pub-gunnysack/pub/bson.errInsufficientVectorData"], apart := false, laid := [("pub-gunnysack/pub/bson.errInsufficientVectorData", laid_pub_gunnysack_pub_bson_errInsufficientVectorData), ("pub-gunnysack/pub/bson.errNonZeroVectorPadding", laid_pub_gunnysack_pub_bson_errNonZeroVectorPadding), ("pub-gunnysack/pub/bson.errVectorPaddingTooLarge", laid_pub_gunnysack_pub_bson_errVectorPaddingTooLarge)] }
def FnVectorBitsSaid : Prop := fnVectorBitsRow.holds Tryd.pinned (OpenSpec.ofChange fnVectorBitsSpec)

/-- ITS FALSE NEIGHBOUR: 'it returns false'. Refute it at one input. -/
def fnVectorBitsWrong : ChangeSpec := { name := "fnVectorBits", fn := fun _ => fun
  | [d1, d2] => { results := [.lit (.bool false)], args := [d1, d2] }
  | _ => none }
def FnVectorBitsWrongFalsely : Prop := fnVectorBitsRow.holds Tryd.pinned (OpenSpec.ofChange fnVectorBitsWrong)

/- THE SECOND FORM. 'bulk': how many values and letters a reading holds, each counted each time it is reached (what is shared counts as often as it is met; a slice's spare places count too). A statement '..UptoSaid' is the law's where the arguments, and the package variables that the reading takes, are together of bulk at most 1048576: NARROWER than '..Said'. Prove '..Said' where nothing that the law and all that it calls make is longer than what came in: it says more and counts as full. Else prove '..UptoSaid'. A law counts once. -/
mutual
def uptoBulk {H : Type} : DataW H → Nat
  | .lit (.string bytes) => bytes.length + 1
  | .lit _ => 1
  | .nil => 1
  | .ptr d => uptoBulk d + 1
  | .slice elems spare => uptoBulkAll elems + uptoBulkAll spare + 1
  | .agg parts => uptoBulkAll parts + 1
  | .iface _ d => uptoBulk d + 1
  | .map entries => uptoBulkEntries entries + 1
  | .held _ => 1
def uptoBulkAll {H : Type} : List (DataW H) → Nat
  | [] => 0
  | d :: r => uptoBulk d + uptoBulkAll r
def uptoBulkEntries {H : Type} : List (Lit × DataW H) → Nat
  | [] => 0
  | x :: r => uptoBulkEntry x + uptoBulkEntries r
def uptoBulkEntry {H : Type} : Lit × DataW H → Nat
  | (.string bytes, d) => bytes.length + uptoBulk d + 1
  | (_, d) => uptoBulk d + 1
 end
def uptoSmall : (H : Type) → List (DataW H) → Bool := fun _ ds => decide (uptoBulkAll ds ≤ 1048576)
def OpenSpec.upto (s : _root_.Go.ChangeSpec) : _root_.Go.OpenSpec := { _root_.Go.OpenSpec.ofChange s with cond := some uptoSmall }

/-- 'laws.FnExtIDs', WHERE WHAT IT READS IS OF BULK AT MOST 1048576: true; the input reads as it did. -/
def fnExtIDsUptoRow : OpenClaim := { program := "ythlpmeiihchdjaadoor", sum := "8a2d75035243cb234e4b70e8a129996c1c27524681b0f9c38de693603990cc5a", func := "pub-gunnysack/laws.FnExtIDs", spec := "fnExtIDs", named := ["pub-gunnysack/pub/bson.NilObjectID", "pub-gunnysack/pub/bson.ErrInvalidHex", "encoding/hex.ErrLength"], apart := false, laid := [("encoding/hex.ErrLength", laid_encoding_hex_ErrLength), ("pub-gunnysack/pub/bson.ErrInvalidHex", laid_pub_gunnysack_pub_bson_ErrInvalidHex), ("pub-gunnysack/pub/bson.NilObjectID", laid_pub_gunnysack_pub_bson_NilObjectID)], narrowed := true }
def FnExtIDsUptoSaid : Prop := fnExtIDsUptoRow.holds Tryd.pinned (OpenSpec.upto fnExtIDsSpec)

/-- 'laws.FnBindID', WHERE WHAT IT READS IS OF BULK AT MOST 1048576: true; the input reads as it did. -/
def fnBindIDUptoRow : OpenClaim := { program := "ythlpmeiihchdjaadoor", sum := "8a2d75035243cb234e4b70e8a129996c1c27524681b0f9c38de693603990cc5a", func := "pub-gunnysack/laws.FnBindID", spec := "fnBindID", named := ["pub-gunnysack/pub/bson.NilObjectID", "pub-gunnysack/pub/bson.ErrInvalidHex", "encoding/hex.ErrLength"], apart := false, laid := [("encoding/hex.ErrLength", laid_encoding_hex_ErrLength), ("pub-gunnysack/pub/bson.ErrInvalidHex", laid_pub_gunnysack_pub_bson_ErrInvalidHex), ("pub-gunnysack/pub/bson.NilObjectID", laid_pub_gunnysack_pub_bson_NilObjectID)], narrowed := true }
def FnBindIDUptoSaid : Prop := fnBindIDUptoRow.holds Tryd.pinned (OpenSpec.upto fnBindIDSpec)

/-- 'laws.FnVectorBits', WHERE WHAT IT READS IS OF BULK AT MOST 1048576: true; the input reads as it did. -/
def fnVectorBitsUptoRow : OpenClaim := { program := "ythlpmeiihchdjaadoor", sum := "8a2d75035243cb234e4b70e8a129996c1c27524681b0f9c38de693603990cc5a", func := "pub-gunnysack/laws.FnVectorBits", spec := "fnVectorBits", inPlace := ["math.Float32bits", "math.Float32frombits"], named := ["pub-gunnysack/pub/bson.errVectorPaddingTooLarge", "pub-gunnysack/pub/bson.errNonZeroVectorPadding", "encoding/binary.LittleEndian", "pub-gunnysack/pub/bson.errInsufficientVectorData"], apart := false, laid := [("pub-gunnysack/pub/bson.errInsufficientVectorData", laid_pub_gunnysack_pub_bson_errInsufficientVectorData), ("pub-gunnysack/pub/bson.errNonZeroVectorPadding", laid_pub_gunnysack_pub_bson_errNonZeroVectorPadding), ("pub-gunnysack/pub/bson.errVectorPaddingTooLarge", laid_pub_gunnysack_pub_bson_errVectorPaddingTooLarge)], narrowed := true }
def FnVectorBitsUptoSaid : Prop := fnVectorBitsUptoRow.holds Tryd.pinned (OpenSpec.upto fnVectorBitsSpec)

end Rows
end Go.Proofs.YthlpmeiihchdjaaDoor
