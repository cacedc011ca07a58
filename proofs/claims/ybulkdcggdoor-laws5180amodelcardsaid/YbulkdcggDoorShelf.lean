/-
  DERIVED: THE SHELF's CONTRACTS AT THIS DUMP, IN PLAIN WORDS (tools/lay-plain.mjs out of 'YbadShelf.lean', which tools/lay-shelf.mjs wrote): THE SAME DECLARATIONS UNDER THE SAME NAMES: 'import', 'namespace', 'open', 'def', 'theorem' AND NOTHING ELSE: no command of the shelf's: FOR A HAND-IN. Each laying: the table of numbers ('.._ren') and one theorem, a field a fact of the dump's own or the kernel's comparison; each contract: ONE APPLICATION.
-/
import Derived.Ground.MnProg
import Derived.Shelf.Bin.BEUint16
import Derived.Shelf.Bin.BEUint16Panics
import Derived.Shelf.Bin.ReadersZ
import Derived.Test.YbulkdcggDoorProg
namespace Go.Proofs
open Go.Shelf
def Ybad.laysBin36_ren : Go.Shelf.Ren := ⟨fun | 36 => 15 | n => n, fun | 37 => 50 | 22 => 23 | 23 => 37 | 0 => 0 | 5 => 5 | 45 => 41 | n => n, fun | n => n⟩
theorem Ybad.laysBin36 : Go.Proofs.LaysBin.n36 Ybad.prog Ybad.laysBin36_ren := {
  mixed := by kernel_rfl
  f36 := Ybad.func15.trans (congrArg some (by kernel_rfl))
  t0 := Ybad.underlying0
  a0 := Ybad.isAgg0
  z0 := Ybad.sizeOf0
  v0 := Ybad.zeroValue0
  i0 := by kernel_rfl
  t5 := Ybad.underlying5
  a5 := Ybad.isAgg5
  z5 := Ybad.sizeOf5
  v5 := Ybad.zeroValue5
  i5 := by kernel_rfl
  t22 := Ybad.underlying23
  a22 := Ybad.isAgg23
  z22 := Ybad.sizeOf23
  v22 := Ybad.zeroValue23
  i22 := by kernel_rfl
  t23 := Ybad.underlying37
  a23 := Ybad.isAgg37
  z23 := Ybad.sizeOf37
  v23 := Ybad.zeroValue37
  i23 := by kernel_rfl
  t37 := Ybad.underlying50
  a37 := Ybad.isAgg50
  z37 := Ybad.sizeOf50
  v37 := Ybad.zeroValue50
  i37 := by kernel_rfl
  t45 := Ybad.underlying41
  a45 := Ybad.isAgg41
  z45 := Ybad.sizeOf41
  v45 := Ybad.zeroValue41
  i45 := by kernel_rfl }
open Go.RowKit in
/-- binary.BigEndian.Uint16: "Uint16 returns the uint16 representation of b[0:2].": THE NUMBER THAT THE FIRST 2 BYTES SPELL, the greatest byte first ('Lib.beNat'). Of what was there nothing has turned (the receiver, an empty struct, is laid in a new block without cells; the statement's order is drawn). (LAID: no walk: one application.) -/
theorem Ybad.binary_BE_Uint16 (g o n c : Nat) (b0 b1 : UInt8) (w : World) (hn : 2 ≤ n) (c0 : w.cell? ⟨g, o, none⟩ = some (.int .u8 b0.toNat)) (c1 : w.cell? ⟨g, o + 1, none⟩ = some (.int .u8 b1.toNat)) :
    Calls Ybad.prog 15 #[.agg #[], .slice (some ⟨g, o, none⟩) n c] w fun e w' => e = .returned (.int .u16 (Lib.beNat [b0, b1])) ∧ Below w.heap.size w w' := Any.binary_BE_Uint16 Ybad.laysBin36 g o n c b0 b1 w hn c0 c1
open Go.RowKit in
/-- binary.BigEndian.Uint16, b SHORTER THAN 2: IT PANICS: Go's 'runtime error: index out of range [1] with length n' ('Lib.boundsPanicked'). THE WORLD: the receiver's new block without cells, and the draw of the panic's flag. (LAID: no walk: one application.) -/
theorem Ybad.binary_BE_Uint16_panics (ao : Option Addr) (n c : Nat) (w : World) (hn : n < 2) (hnil : ao = none → n = 0) :
    Calls Ybad.prog 15 #[.agg #[], .slice ao n c] w fun e w' => Lib.boundsPanicked Ybad.prog 1 n e ∧ w' = (w.alloc (.cells #[] 50)).drew := Any.binary_BE_Uint16_panics Ybad.laysBin36 ao n c w hn hnil
open Go.RowKit in
/-- binary.BigEndian.Uint16, ITS PREMISES 'open_ints'' CONCLUSION TO THE LETTER: a slice at WHATEVER address a, the numbers zs that its cells hold: THE NUMBER THAT THE FIRST 2 SPELL ('Lib.beZ'). (LAID: no walk: one application.) -/
theorem Ybad.binary_BE_Uint16_z (a : Addr) (n c : Nat) (zs : List Int) (w : World) (hn : 2 ≤ n) (hl : 2 ≤ zs.length) (hcell : ∀ i, i < zs.length → w.cell? (a.add i) = some (.int .u8 (zs.getD i 0))) (hw : ∀ z ∈ zs, (Lit.int .u8 z).wf = true) :
    Calls Ybad.prog 15 #[.agg #[], .slice (some a) n c] w fun e w' => e = .returned (.int .u16 (Lib.beZ (zs.take 2))) ∧ Below w.heap.size w w' := Any.binary_BE_Uint16_z Ybad.laysBin36 a n c zs w hn hl hcell hw
end Go.Proofs
