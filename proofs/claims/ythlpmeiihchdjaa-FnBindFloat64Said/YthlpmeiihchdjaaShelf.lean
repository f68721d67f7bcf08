/-
  DERIVED: THE SHELF's CONTRACTS AT THIS DUMP, IN PLAIN WORDS (tools/lay-plain.mjs out of 'TryShelf.lean', which tools/lay-shelf.mjs wrote): THE SAME DECLARATIONS UNDER THE SAME NAMES: 'import', 'namespace', 'open', 'def', 'theorem' AND NOTHING ELSE: no command of the shelf's: FOR A HAND-IN. Each laying: the table of numbers ('.._ren') and one theorem, a field a fact of the dump's own or the kernel's comparison; each contract: ONE APPLICATION.
-/
import Derived.Ground.MnProg
import Derived.Shelf.Bin.LEPutUint32
import Derived.Shelf.Bin.LEUint64
import Derived.Shelf.Bin.ReadersZ
import Derived.Shelf.Bytes.SlIndexAt
import Derived.Shelf.Bytes.IndexByte
import Derived.Test.YthlpmeiihchdjaaProg
namespace Go.Proofs
open Go.Shelf
def Try.laysBin31_ren : Go.Shelf.Ren := ⟨fun | 31 => 72 | n => n, fun | 25 => 109 | 22 => 24 | 29 => 111 | 0 => 0 | 5 => 5 | 45 => 91 | n => n, fun | n => n⟩
theorem Try.laysBin31 : Go.Proofs.LaysBin.n31 Try.prog Try.laysBin31_ren := {
  mixed := by kernel_rfl
  f31 := Try.func72.trans (congrArg some (by kernel_rfl))
  t0 := Try.underlying0
  a0 := Try.isAgg0
  z0 := Try.sizeOf0
  v0 := Try.zeroValue0
  i0 := by kernel_rfl
  t5 := Try.underlying5
  a5 := Try.isAgg5
  z5 := Try.sizeOf5
  v5 := Try.zeroValue5
  i5 := by kernel_rfl
  t22 := Try.underlying24
  a22 := Try.isAgg24
  z22 := Try.sizeOf24
  v22 := Try.zeroValue24
  i22 := by kernel_rfl
  t25 := Try.underlying109
  a25 := Try.isAgg109
  z25 := Try.sizeOf109
  v25 := Try.zeroValue109
  i25 := by kernel_rfl
  t29 := Try.underlying111
  a29 := Try.isAgg111
  z29 := Try.sizeOf111
  v29 := Try.zeroValue111
  i29 := by kernel_rfl
  t45 := Try.underlying91
  a45 := Try.isAgg91
  z45 := Try.sizeOf91
  v45 := Try.zeroValue91
  i45 := by kernel_rfl }
open Go.RowKit in
/-- binary.LittleEndian.PutUint32: "PutUint32 stores v into b[0:4].": v's 4 BYTES, the least first ('Lib.leBytes 4 v'), ARE LAID IN THE SLICE's FIRST 4 CELLS ('World.setCells'); nothing else turns (the receiver, an empty struct, is laid in a new block without cells). (LAID: no walk: one application.) -/
theorem Try.binary_LE_PutUint32 (g o n c v : Nat) (hv : v < 4294967296) (x0 x1 x2 x3 : Value) (w : World) (hn : 4 ≤ n) (c0 : w.cell? ⟨g, o, none⟩ = some x0) (c1 : w.cell? ⟨g, o + 1, none⟩ = some x1) (c2 : w.cell? ⟨g, o + 2, none⟩ = some x2) (c3 : w.cell? ⟨g, o + 3, none⟩ = some x3) (f0 : w.frozen? ⟨g, o, none⟩ = false) (f1 : w.frozen? ⟨g, o + 1, none⟩ = false) (f2 : w.frozen? ⟨g, o + 2, none⟩ = false) (f3 : w.frozen? ⟨g, o + 3, none⟩ = false) :
    Calls Try.prog 72 #[.agg #[], .slice (some ⟨g, o, none⟩) n c, .int .u32 v] w fun e w' => e = .returned (.tuple #[]) ∧ w' = (w.alloc (.cells #[] 109)).setCells g o (Lib.byteCells (Lib.leBytes 4 v)) := Any.binary_LE_PutUint32 Try.laysBin31 g o n c v hv x0 x1 x2 x3 w hn c0 c1 c2 c3 f0 f1 f2 f3
def Try.laysBin33_ren : Go.Shelf.Ren := ⟨fun | 33 => 88 | n => n, fun | 25 => 109 | 22 => 24 | 33 => 34 | 0 => 0 | 5 => 5 | 45 => 91 | n => n, fun | n => n⟩
theorem Try.laysBin33 : Go.Proofs.LaysBin.n33 Try.prog Try.laysBin33_ren := {
  mixed := by kernel_rfl
  f33 := Try.func88.trans (congrArg some (by kernel_rfl))
  t0 := Try.underlying0
  a0 := Try.isAgg0
  z0 := Try.sizeOf0
  v0 := Try.zeroValue0
  i0 := by kernel_rfl
  t5 := Try.underlying5
  a5 := Try.isAgg5
  z5 := Try.sizeOf5
  v5 := Try.zeroValue5
  i5 := by kernel_rfl
  t22 := Try.underlying24
  a22 := Try.isAgg24
  z22 := Try.sizeOf24
  v22 := Try.zeroValue24
  i22 := by kernel_rfl
  t25 := Try.underlying109
  a25 := Try.isAgg109
  z25 := Try.sizeOf109
  v25 := Try.zeroValue109
  i25 := by kernel_rfl
  t33 := Try.underlying34
  a33 := Try.isAgg34
  z33 := Try.sizeOf34
  v33 := Try.zeroValue34
  i33 := by kernel_rfl
  t45 := Try.underlying91
  a45 := Try.isAgg91
  z45 := Try.sizeOf91
  v45 := Try.zeroValue91
  i45 := by kernel_rfl }
open Go.RowKit in
/-- binary.LittleEndian.Uint64: "Uint64 returns the uint64 representation of b[0:8].": THE NUMBER THAT THE FIRST 8 BYTES SPELL, the least byte first ('Lib.leNat'). Of what was there nothing has turned (the receiver, an empty struct, is laid in a new block without cells; the statement's order is drawn). (LAID: no walk: one application.) -/
theorem Try.binary_LE_Uint64 (g o n c : Nat) (b0 b1 b2 b3 b4 b5 b6 b7 : UInt8) (w : World) (hn : 8 ≤ n) (c0 : w.cell? ⟨g, o, none⟩ = some (.int .u8 b0.toNat)) (c1 : w.cell? ⟨g, o + 1, none⟩ = some (.int .u8 b1.toNat)) (c2 : w.cell? ⟨g, o + 2, none⟩ = some (.int .u8 b2.toNat)) (c3 : w.cell? ⟨g, o + 3, none⟩ = some (.int .u8 b3.toNat)) (c4 : w.cell? ⟨g, o + 4, none⟩ = some (.int .u8 b4.toNat)) (c5 : w.cell? ⟨g, o + 5, none⟩ = some (.int .u8 b5.toNat)) (c6 : w.cell? ⟨g, o + 6, none⟩ = some (.int .u8 b6.toNat)) (c7 : w.cell? ⟨g, o + 7, none⟩ = some (.int .u8 b7.toNat)) :
    Calls Try.prog 88 #[.agg #[], .slice (some ⟨g, o, none⟩) n c] w fun e w' => e = .returned (.int .u64 (Lib.leNat [b0, b1, b2, b3, b4, b5, b6, b7])) ∧ Below w.heap.size w w' := Any.binary_LE_Uint64 Try.laysBin33 g o n c b0 b1 b2 b3 b4 b5 b6 b7 w hn c0 c1 c2 c3 c4 c5 c6 c7
open Go.RowKit in
/-- binary.LittleEndian.Uint64, ITS PREMISES 'open_ints'' CONCLUSION TO THE LETTER: a slice at WHATEVER address a, the numbers zs that its cells hold: THE NUMBER THAT THE FIRST 8 SPELL ('Lib.leZ'). (LAID: no walk: one application.) -/
theorem Try.binary_LE_Uint64_z (a : Addr) (n c : Nat) (zs : List Int) (w : World) (hn : 8 ≤ n) (hl : 8 ≤ zs.length) (hcell : ∀ i, i < zs.length → w.cell? (a.add i) = some (.int .u8 (zs.getD i 0))) (hw : ∀ z ∈ zs, (Lit.int .u8 z).wf = true) :
    Calls Try.prog 88 #[.agg #[], .slice (some a) n c] w fun e w' => e = .returned (.int .u64 (Lib.leZ (zs.take 8))) ∧ Below w.heap.size w w' := Any.binary_LE_Uint64_z Try.laysBin33 a n c zs w hn hl hcell hw
def Try.lays187_ren : Go.Shelf.Ren := ⟨fun | 187 => 74 | 255 => 83 | n => n, fun | 37 => 24 | 5 => 5 | 3 => 3 | n => n, fun | n => n⟩
theorem Try.lays187 : Go.Proofs.Lays.n187 Try.prog Try.lays187_ren := {
  mixed := by kernel_rfl
  f187 := Try.func74.trans (congrArg some (by kernel_rfl))
  f255 := Try.func83.trans (congrArg some (by kernel_rfl))
  t3 := Try.underlying3
  a3 := Try.isAgg3
  z3 := Try.sizeOf3
  v3 := Try.zeroValue3
  t5 := Try.underlying5
  a5 := Try.isAgg5
  z5 := Try.sizeOf5
  v5 := Try.zeroValue5
  t37 := Try.underlying24
  a37 := Try.isAgg24
  z37 := Try.sizeOf24
  v37 := Try.zeroValue24 }
open Go.RowKit Go.Lib in
/-- bytes.IndexByte, b at whatever address: "IndexByte returns the index of the first instance of c in b, or -1 if c is not present in b." (LAID: no walk: one application.) -/
theorem Try.bytes_IndexByte_at (a : Addr) (n c : Nat) (xs : List Int) (cv : Int) (w : World) (hx : xs.length = n) (hc : ∀ i, i < n → w.cell? (a.add i) = some (.int .u8 (xs.getD i 0))) :
    Calls Try.prog 74 #[.slice (some a) n c, .int .u8 cv] w fun e w' => e = .returned (.int .i64 (Lib.indexByte (Lib.bytesOf xs) cv.toNat.toUInt8)) ∧ w' = w := Any.bytes_IndexByte_at Try.lays187 a n c xs cv w hx hc
/-- bytes.IndexByte: "IndexByte returns the index of the first instance of c in b, or -1 if c is not present in b.": IT RETURNS 'Lib.indexByte (the bytes of b) c'; the world is as it was. 'xs': the numbers that the slice's cells hold. (LAID: no walk: one application.) -/
theorem Try.bytes_IndexByte (b o n c : Nat) (xs : List Int) (cv : Int) (w : World) (hx : xs.length = n) (hc : ∀ i, i < n → w.cell? ⟨b, o + i, none⟩ = some (.int .u8 (xs.getD i 0))) :
    Calls Try.prog 74 #[.slice (some ⟨b, o, none⟩) n c, .int .u8 cv] w fun e w' => e = .returned (.int .i64 (Lib.indexByte (Lib.bytesOf xs) cv.toNat.toUInt8)) ∧ w' = w := Any.bytes_IndexByte Try.lays187 b o n c xs cv w hx hc
/-- bytes.IndexByte AT nil: -1. (LAID: no walk: one application.) -/
theorem Try.bytes_IndexByte_nil (cv : Int) (w : World) :
    Calls Try.prog 74 #[.slice none 0 0, .int .u8 cv] w fun e w' => e = .returned (.int .i64 (-1)) ∧ w' = w := Any.bytes_IndexByte_nil Try.lays187 cv w
end Go.Proofs
