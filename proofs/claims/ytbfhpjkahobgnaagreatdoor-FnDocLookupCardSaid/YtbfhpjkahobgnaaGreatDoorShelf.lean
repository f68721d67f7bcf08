/-
  DERIVED: THE SHELF's CONTRACTS AT THIS DUMP, IN PLAIN WORDS (tools/lay-plain.mjs out of 'TryzShelf.lean', which tools/lay-shelf.mjs wrote): THE SAME DECLARATIONS UNDER THE SAME NAMES: 'import', 'namespace', 'open', 'def', 'theorem' AND NOTHING ELSE: no command of the shelf's: FOR A HAND-IN. Each laying: the table of numbers ('.._ren') and one theorem, a field a fact of the dump's own or the kernel's comparison; each contract: ONE APPLICATION.
-/
import Derived.Ground.MnProg
import Derived.Shelf.Bin.LEUint32
import Derived.Shelf.Bin.LEUint64
import Derived.Shelf.Bin.ReadersZ
import Derived.Test.YtbfhpjkahobgnaaGreatDoorProg
namespace Go.Proofs
open Go.Shelf
def Tryz.laysBin30_ren : Go.Shelf.Ren := ⟨fun | 30 => 157 | n => n, fun | 25 => 227 | 22 => 22 | 29 => 130 | 0 => 0 | 5 => 5 | 45 => 63 | n => n, fun | n => n⟩
def Tryz.laysBin33_ren : Go.Shelf.Ren := ⟨fun | 33 => 155 | n => n, fun | 25 => 227 | 22 => 22 | 33 => 44 | 0 => 0 | 5 => 5 | 45 => 63 | n => n, fun | n => n⟩
end Go.Proofs
