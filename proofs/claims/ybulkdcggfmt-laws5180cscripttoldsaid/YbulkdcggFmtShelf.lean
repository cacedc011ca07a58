/-
  DERIVED: THE SHELF's CONTRACTS AT THIS DUMP, IN PLAIN WORDS (tools/lay-plain.mjs out of 'YbafShelf.lean', which tools/lay-shelf.mjs wrote): THE SAME DECLARATIONS UNDER THE SAME NAMES: 'import', 'namespace', 'open', 'def', 'theorem' AND NOTHING ELSE: no command of the shelf's: FOR A HAND-IN. Each laying: the table of numbers ('.._ren') and one theorem, a field a fact of the dump's own or the kernel's comparison; each contract: ONE APPLICATION.
-/
import Derived.Ground.MnProg
import Derived.Shelf.Bin.BEUint16
import Derived.Shelf.Bin.BEUint16Panics
import Derived.Shelf.Bin.ReadersZ
import Derived.Shelf.Bytes.SlSearch0
import Derived.Ground.SlbCloneProg
import Derived.Shelf.Bytes.SlClone
import Derived.Ground.SlbNamesProg
import Derived.Shelf.Bytes.SlJoin
import Derived.Shelf.Bytes.SlEqualAll
import Derived.Shelf.Bytes.Small
import Derived.Test.YbulkdcggFmtProg
namespace Go.Proofs
open Go.Shelf
def Ybaf.laysBin36_ren : Go.Shelf.Ren := ⟨fun | 36 => 15 | n => n, fun | 37 => 61 | 22 => 25 | 23 => 40 | 0 => 0 | 5 => 5 | 45 => 49 | n => n, fun | n => n⟩
theorem Ybaf.laysBin36 : Go.Proofs.LaysBin.n36 Ybaf.prog Ybaf.laysBin36_ren := {
  mixed := by kernel_rfl
  f36 := Ybaf.func15.trans (congrArg some (by kernel_rfl))
  t0 := Ybaf.underlying0
  a0 := Ybaf.isAgg0
  z0 := Ybaf.sizeOf0
  v0 := Ybaf.zeroValue0
  i0 := by kernel_rfl
  t5 := Ybaf.underlying5
  a5 := Ybaf.isAgg5
  z5 := Ybaf.sizeOf5
  v5 := Ybaf.zeroValue5
  i5 := by kernel_rfl
  t22 := Ybaf.underlying25
  a22 := Ybaf.isAgg25
  z22 := Ybaf.sizeOf25
  v22 := Ybaf.zeroValue25
  i22 := by kernel_rfl
  t23 := Ybaf.underlying40
  a23 := Ybaf.isAgg40
  z23 := Ybaf.sizeOf40
  v23 := Ybaf.zeroValue40
  i23 := by kernel_rfl
  t37 := Ybaf.underlying61
  a37 := Ybaf.isAgg61
  z37 := Ybaf.sizeOf61
  v37 := Ybaf.zeroValue61
  i37 := by kernel_rfl
  t45 := Ybaf.underlying49
  a45 := Ybaf.isAgg49
  z45 := Ybaf.sizeOf49
  v45 := Ybaf.zeroValue49
  i45 := by kernel_rfl }
open Go.RowKit in
/-- binary.BigEndian.Uint16: "Uint16 returns the uint16 representation of b[0:2].": THE NUMBER THAT THE FIRST 2 BYTES SPELL, the greatest byte first ('Lib.beNat'). Of what was there nothing has turned (the receiver, an empty struct, is laid in a new block without cells; the statement's order is drawn). (LAID: no walk: one application.) -/
theorem Ybaf.binary_BE_Uint16 (g o n c : Nat) (b0 b1 : UInt8) (w : World) (hn : 2 ≤ n) (c0 : w.cell? ⟨g, o, none⟩ = some (.int .u8 b0.toNat)) (c1 : w.cell? ⟨g, o + 1, none⟩ = some (.int .u8 b1.toNat)) :
    Calls Ybaf.prog 15 #[.agg #[], .slice (some ⟨g, o, none⟩) n c] w fun e w' => e = .returned (.int .u16 (Lib.beNat [b0, b1])) ∧ Below w.heap.size w w' := Any.binary_BE_Uint16 Ybaf.laysBin36 g o n c b0 b1 w hn c0 c1
open Go.RowKit in
/-- binary.BigEndian.Uint16, b SHORTER THAN 2: IT PANICS: Go's 'runtime error: index out of range [1] with length n' ('Lib.boundsPanicked'). THE WORLD: the receiver's new block without cells, and the draw of the panic's flag. (LAID: no walk: one application.) -/
theorem Ybaf.binary_BE_Uint16_panics (ao : Option Addr) (n c : Nat) (w : World) (hn : n < 2) (hnil : ao = none → n = 0) :
    Calls Ybaf.prog 15 #[.agg #[], .slice ao n c] w fun e w' => Lib.boundsPanicked Ybaf.prog 1 n e ∧ w' = (w.alloc (.cells #[] 61)).drew := Any.binary_BE_Uint16_panics Ybaf.laysBin36 ao n c w hn hnil
open Go.RowKit in
/-- binary.BigEndian.Uint16, ITS PREMISES 'open_ints'' CONCLUSION TO THE LETTER: a slice at WHATEVER address a, the numbers zs that its cells hold: THE NUMBER THAT THE FIRST 2 SPELL ('Lib.beZ'). (LAID: no walk: one application.) -/
theorem Ybaf.binary_BE_Uint16_z (a : Addr) (n c : Nat) (zs : List Int) (w : World) (hn : 2 ≤ n) (hl : 2 ≤ zs.length) (hcell : ∀ i, i < zs.length → w.cell? (a.add i) = some (.int .u8 (zs.getD i 0))) (hw : ∀ z ∈ zs, (Lit.int .u8 z).wf = true) :
    Calls Ybaf.prog 15 #[.agg #[], .slice (some a) n c] w fun e w' => e = .returned (.int .u16 (Lib.beZ (zs.take 2))) ∧ Below w.heap.size w w' := Any.binary_BE_Uint16_z Ybaf.laysBin36 a n c zs w hn hl hcell hw
def Ybaf.lays115_ren : Go.Shelf.Ren := ⟨fun | 115 => 8 | n => n, fun | 37 => 25 | 4 => 4 | 9 => 9 | 5 => 5 | n => n, fun | n => n⟩
theorem Ybaf.lays115 : Go.Proofs.Lays.n115 Ybaf.prog Ybaf.lays115_ren := {
  mixed := by kernel_rfl
  f115 := Ybaf.func8.trans (congrArg some (by kernel_rfl))
  t4 := Ybaf.underlying4
  a4 := Ybaf.isAgg4
  z4 := Ybaf.sizeOf4
  v4 := Ybaf.zeroValue4
  t9 := Ybaf.underlying9
  a9 := Ybaf.isAgg9
  z9 := Ybaf.sizeOf9
  v9 := Ybaf.zeroValue9
  t37 := Ybaf.underlying25
  a37 := Ybaf.isAgg25
  z37 := Ybaf.sizeOf25
  v37 := Ybaf.zeroValue25 }
open Go.Proofs Go.RowKit Go.Lib in
/-- bytes.Equal, each argument with what 'string(..)' of it gives. (LAID: no walk: one application.) -/
theorem Ybaf.bytes_Equal_strs (v1 v2 : Value) (t1 t2 : ByteArray) (w : World) (h1 : (convert 25 9 v1).run Ybaf.prog w = .ok (.string t1) w) (h2 : (convert 25 9 v2).run Ybaf.prog w = .ok (.string t2) w) :
    Calls Ybaf.prog 8 #[v1, v2] w fun e w' => e = .returned (.bool (t1.toList == t2.toList)) ∧ w' = w := Any.bytes_Equal_strs Ybaf.lays115 v1 v2 t1 t2 w h1 h2
def Ybaf.laysSlK4_ren : Go.Shelf.Ren := ⟨fun | 4 => 13 | n => n, fun | 22 => 25 | 4 => 4 | 5 => 5 | n => n, fun | n => n⟩
theorem Ybaf.laysSlK4 : Go.Proofs.SlLaysK.n4 Ybaf.prog Ybaf.laysSlK4_ren := {
  mixed := by kernel_rfl
  f4 := Ybaf.func13.trans (congrArg some (by kernel_rfl))
  t4 := Ybaf.underlying4
  a4 := Ybaf.isAgg4
  z4 := Ybaf.sizeOf4
  v4 := Ybaf.zeroValue4
  t22 := Ybaf.underlying25
  a22 := Ybaf.isAgg25
  z22 := Ybaf.sizeOf25
  v22 := Ybaf.zeroValue25
  t5 := Ybaf.underlying5
  i5 := by kernel_rfl }
open Go.RowKit Go.Lib in
/-- bytes.Clone: "Clone returns a copy of b[:len(b)]. The result may have additional unused capacity.": OF A SLICE THAT IS NOT nil IT RETURNS A SLICE THAT IS NOT nil, OF THE SAME BYTES, IN MEMORY OF THE CALL's OWN: in the how-to's words (6f): 'w'.ownsRow B e 1 v' n cells' · 'Below B w w'', B the heap's size at the call. b AT WHATEVER ADDRESS, its cells as 'open_ints' hands them ('a.add i'; the numbers 'xs'). No byte: no cell is asked for. (LAID: no walk: one application.) -/
theorem Ybaf.bytes_Clone_at (a : Addr) (n c : Nat) (xs : List Int) (w : World) (hx : xs.length = n) (hbig : n ≤ 140737488355328) (hc : ∀ i, i < n → w.cell? (a.add i) = some (.int .u8 (xs.getD i 0))) :
    Calls Ybaf.prog 13 #[.slice (some a) n c] w fun e w' => ∃ v', e = .returned v' ∧ w'.ownsRow w.heap.size 5 1 v' n (xs.map (Value.int .u8)) ∧ v' ≠ .slice none 0 0 ∧ Below w.heap.size w w' := Any.bytes_Clone_at Ybaf.laysSlK4 a n c xs w hx hbig hc
open Go.RowKit Go.Lib in
/-- "Clone(nil) returns nil.": the world is as it was. (LAID: no walk: one application.) -/
theorem Ybaf.bytes_Clone_nil (n c : Nat) (w : World) :
    Calls Ybaf.prog 13 #[.slice none n c] w fun e w' => e = .returned (.slice none 0 0) ∧ w' = w := Any.bytes_Clone_nil Ybaf.laysSlK4 n c w
def Ybaf.laysSlJ14_ren : Go.Shelf.Ren := ⟨fun | 14 => 12 | 15 => 17 | n => n, fun | 26 => 26 | 22 => 25 | 3 => 3 | 4 => 4 | 0 => 0 | 9 => 9 | 20 => 20 | 5 => 5 | n => n, fun | n => n⟩
theorem Ybaf.laysSlJ14 : Go.Proofs.SlLaysJ.n14 Ybaf.prog Ybaf.laysSlJ14_ren := {
  mixed := by kernel_rfl
  f14 := Ybaf.func12.trans (congrArg some (by kernel_rfl))
  f15 := Ybaf.func17.trans (congrArg some (by kernel_rfl))
  t0 := Ybaf.underlying0
  a0 := Ybaf.isAgg0
  z0 := Ybaf.sizeOf0
  v0 := Ybaf.zeroValue0
  t3 := Ybaf.underlying3
  a3 := Ybaf.isAgg3
  z3 := Ybaf.sizeOf3
  v3 := Ybaf.zeroValue3
  t4 := Ybaf.underlying4
  a4 := Ybaf.isAgg4
  z4 := Ybaf.sizeOf4
  v4 := Ybaf.zeroValue4
  t9 := Ybaf.underlying9
  a9 := Ybaf.isAgg9
  z9 := Ybaf.sizeOf9
  v9 := Ybaf.zeroValue9
  t20 := Ybaf.underlying20
  a20 := Ybaf.isAgg20
  z20 := Ybaf.sizeOf20
  v20 := Ybaf.zeroValue20
  t22 := Ybaf.underlying25
  a22 := Ybaf.isAgg25
  z22 := Ybaf.sizeOf25
  v22 := Ybaf.zeroValue25
  t26 := Ybaf.underlying26
  a26 := Ybaf.isAgg26
  z26 := Ybaf.sizeOf26
  v26 := Ybaf.zeroValue26
  t5 := Ybaf.underlying5
  z5 := Ybaf.sizeOf5
  i5 := by kernel_rfl }
open Go.RowKit Go.Lib in
theorem Ybaf.bytes_Join_many (b o n c : Nat) (vs : List Value) (ls : List (List UInt8)) (sv : Value) (sep : List UInt8) (w : World) (hn : ls.length = n) (h2 : 2 ≤ n) (hP : Lib.PartsAt w ⟨b, o, none⟩ vs ls) (hcap : n ≤ c) (hS : Lib.HoldsBytes w sv sep) (hn47 : n ≤ 140737488355328) (hlen : Lib.lens ls + sep.length * (n - 1) ≤ 140737488355328) :
    Calls Ybaf.prog 12 #[.slice (some ⟨b, o, none⟩) n c, sv] w fun e w' => ∃ v', e = .returned v' ∧ Lib.FreshBytes w.heap.size w' v' (Lib.join ls sep) ∧ Below w.heap.size w w' := Any.bytes_Join_many Ybaf.laysSlJ14 b o n c vs ls sv sep w hn h2 hP hcap hS hn47 hlen
open Go.RowKit Go.Lib in
/-- bytes.Join of no part (nil too): '[]byte{}': a slice of no byte THAT IS NOT nil, at the head of a new, empty row. (LAID: no walk: one application.) -/
theorem Ybaf.bytes_Join_none (p : Option Addr) (c : Nat) (sv : Value) (w : World) :
    Calls Ybaf.prog 12 #[.slice p 0 c, sv] w fun e w' => e = .returned (.slice (some ⟨w.heap.size, 0, none⟩) 0 0) ∧ w' = w.alloc (.cells #[] 5) := Any.bytes_Join_none Ybaf.laysSlJ14 p c sv w
open Go.RowKit Go.Lib in
/-- bytes.Join of ONE part, of one byte or more: 'append([]byte(nil), s[0]...)': a new []byte of its bytes; sep is not looked at. (LAID: no walk: one application.) -/
theorem Ybaf.bytes_Join_one (b o c : Nat) (ad0 : Addr) (c0 : Nat) (l0 : List UInt8) (sv : Value) (w : World) (hcell : w.cell? ⟨b, o, none⟩ = some (.slice (some ad0) l0.length c0)) (hc : ∀ (i : Nat) x, l0[i]? = some x → w.cell? (ad0.add i) = some (.int .u8 (x.toNat : Int))) (h0 : 0 < l0.length) (hs : l0.length ≤ 140737488355328) :
    Calls Ybaf.prog 12 #[.slice (some ⟨b, o, none⟩) 1 c, sv] w fun e w' => ∃ v', e = .returned v' ∧ Lib.FreshBytes w.heap.size w' v' l0 ∧ Below w.heap.size w w' := Any.bytes_Join_one Ybaf.laysSlJ14 b o c ad0 c0 l0 sv w hcell hc h0 hs
open Go.RowKit Go.Lib in
/-- bytes.Join of ONE part of no byte (nil or not): 'append([]byte(nil), s[0]...)' IS nil; the world is as it was. (LAID: no walk: one application.) -/
theorem Ybaf.bytes_Join_one_empty (b o c : Nat) (p0 : Option Addr) (c0 : Nat) (sv : Value) (w : World) (hcell : w.cell? ⟨b, o, none⟩ = some (.slice p0 0 c0)) :
    Calls Ybaf.prog 12 #[.slice (some ⟨b, o, none⟩) 1 c, sv] w fun e w' => e = .returned (.slice none 0 0) ∧ w' = w := Any.bytes_Join_one_empty Ybaf.laysSlJ14 b o c p0 c0 sv w hcell
def Ybaf.laysnb115_ren : Go.Shelf.Ren := ⟨fun | 115 => 8 | n => n, fun | 37 => 25 | 4 => 4 | 9 => 9 | 5 => 5 | n => n, fun | n => n⟩
theorem Ybaf.laysnb115 : Go.Proofs.Lays.nb115 Ybaf.prog Ybaf.laysnb115_ren := {
  mixed := by kernel_rfl
  f115 := Ybaf.func8.trans (congrArg some (by kernel_rfl))
  t4 := Ybaf.underlying4
  a4 := Ybaf.isAgg4
  z4 := Ybaf.sizeOf4
  v4 := Ybaf.zeroValue4
  t9 := Ybaf.underlying9
  a9 := Ybaf.isAgg9
  z9 := Ybaf.sizeOf9
  v9 := Ybaf.zeroValue9
  t37 := Ybaf.underlying25
  a37 := Ybaf.isAgg25
  z37 := Ybaf.sizeOf25
  v37 := Ybaf.zeroValue25
  t5 := Ybaf.underlying5
  a5 := Ybaf.isAgg5
  z5 := Ybaf.sizeOf5
  v5 := Ybaf.zeroValue5 }
/-- bytes.Equal: WHOLE. (LAID: no walk: one application.) -/
theorem Ybaf.bytes_Equal_all (p1 p2 : Option Addr) (n c m d : Nat) (xs ys : List Int) (w : World) (hx : xs.length = n) (hy : ys.length = m) (h1 : Lib.BytesIn w p1 n xs) (h2 : Lib.BytesIn w p2 m ys) :
    Calls Ybaf.prog 8 #[.slice p1 n c, .slice p2 m d] w fun e w' => e = .returned (.bool (Lib.bytesOf xs == Lib.bytesOf ys)) ∧ w' = w := Any.bytes_Equal_all Ybaf.laysnb115 p1 p2 n c m d xs ys w hx hy h1 h2
/-- bytes.Equal: "Equal reports whether a and b are the same length and contain the same bytes. A nil argument is equivalent to an empty slice.": IT RETURNS 'the bytes of the one == the bytes of the other'; the world is as it was. THE TWO ARGUMENTS COME AS WHATEVER VALUES, each with the one fact that the walk wants of it: what 'string(..)' of it gives: for a slice whose cells you know: 'run_convert_bytes_arg' (Derived/Laws/BytesArg.lean) hands that fact; for a nil one: 'run_convert_bytes_nil' (with xs := []). (LAID: no walk: one application.) -/
theorem Ybaf.bytes_Equal (v1 v2 : Value) (xs ys : List Int) (w : World) (h1 : (convert 25 9 v1).run Ybaf.prog w = .ok (.string (strOfNums xs)) w) (h2 : (convert 25 9 v2).run Ybaf.prog w = .ok (.string (strOfNums ys)) w) :
    Calls Ybaf.prog 8 #[v1, v2] w fun e w' => e = .returned (.bool (Lib.bytesOf xs == Lib.bytesOf ys)) ∧ w' = w := Any.bytes_Equal Ybaf.lays115 v1 v2 xs ys w h1 h2
end Go.Proofs
