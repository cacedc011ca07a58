/-
  DERIVED: THE SHELF's CONTRACTS AT THIS DUMP, IN PLAIN WORDS (tools/lay-plain.mjs out of 'YbaShelf.lean', which tools/lay-shelf.mjs wrote): THE SAME DECLARATIONS UNDER THE SAME NAMES: 'import', 'namespace', 'open', 'def', 'theorem' AND NOTHING ELSE: no command of the shelf's: FOR A HAND-IN. Each laying: the table of numbers ('.._ren') and one theorem, a field a fact of the dump's own or the kernel's comparison; each contract: ONE APPLICATION.
-/
import Derived.Ground.Names2Prog
import Derived.Shelf.Slices.Delete
import Derived.Shelf.Slices.Cells
import Derived.Shelf.Slices.Empties
import Derived.Test.YbulkdceqProg
namespace Go.Proofs
open Go.Shelf
def Yba.laysNm223_ren : Go.Shelf.Ren := ⟨fun | 23 => 5 | n => n, fun | 22 => 44 | 3 => 3 | 4 => 4 | 0 => 0 | n => n, fun | n => n⟩
theorem Yba.laysNm223 : Go.Proofs.Lays2.n23 Yba.prog Yba.laysNm223_ren := {
  mixed := by kernel_rfl
  f23 := Yba.func5.trans (congrArg some (by kernel_rfl))
  t0 := Yba.underlying0
  a0 := Yba.isAgg0
  z0 := Yba.sizeOf0
  v0 := Yba.zeroValue0
  t3 := Yba.underlying3
  a3 := Yba.isAgg3
  z3 := Yba.sizeOf3
  v3 := Yba.zeroValue3
  t4 := Yba.underlying4
  a4 := Yba.isAgg4
  z4 := Yba.sizeOf4
  v4 := Yba.zeroValue4
  t22 := Yba.underlying44
  a22 := Yba.isAgg44
  z22 := Yba.sizeOf44
  v22 := Yba.zeroValue44
  i3 := by kernel_rfl }
open Go.RowKit Go.Lib Go.Sort in
/-- slices.Delete at []int, over an array. (LAID: no walk: one application.) -/
theorem Yba.slices_Delete_int_arr (blk off cap i j : Nat) (d : Array Int) (w : World) (hH : Holds encI w blk off d) (hcap : d.size ≤ cap) (hm : cap ≤ 9223372036854775807) (hij : i ≤ j) (hj : j ≤ d.size) :
    Calls Yba.prog 5 #[.slice (some ⟨blk, off, none⟩) d.size cap, .int .i64 i, .int .i64 j] w fun e w' => e = .returned (.slice (some ⟨blk, off, none⟩) (d.size - (j - i)) cap) ∧ ∃ q, w' = putRow encI (Sort.ahead w q) blk off (d.toList.take i ++ d.toList.drop j ++ List.replicate (j - i) 0).toArray := Any.slices_Delete_int_arr Yba.laysNm223 blk off cap i j d w hH hcap hm hij hj
open Go.RowKit Go.Lib Go.Sort in
/-- slices.Delete at []int: "Delete modifies s in place by removing the elements s[i:j], and returns the modified slice. Delete panics if j > len(s) or s[i:j] is not a valid slice of s. Delete is O(len(s)-i), so if many items must be deleted, it is better to make a single call deleting them all together than to delete one at a time. Delete zeroes the elements s[len(s)-(j-i):len(s)]. If the result is empty, it has the same nilness as s.": FOR i ≤ j ≤ len(s) IT RETURNS THE SLICE CUT TO len(s) - (j - i) ELEMENTS; ITS CELLS HOLD what stood ahead of i, what stood from j on, then j - i zero values; all else is as it was, but for the count of draws. IN THE WORDS OF slices.Sort's CONTRACT ('Holds', 'putRow'). It asks 'zs.length ≤ cap ≤ 2^63 - 1' (every slice's). (Outside i ≤ j ≤ len(s) it panics: no contract here.) (LAID: no walk: one application.) -/
theorem Yba.slices_Delete_int (blk off cap i j : Nat) (zs : List Int) (w : World) (hH : Holds (Value.int .i64) w blk off zs.toArray) (hcap : zs.length ≤ cap) (hm : cap ≤ 9223372036854775807) (hij : i ≤ j) (hj : j ≤ zs.length) :
    Calls Yba.prog 5 #[.slice (some ⟨blk, off, none⟩) zs.length cap, .int .i64 i, .int .i64 j] w fun e w' => e = .returned (.slice (some ⟨blk, off, none⟩) (zs.length - (j - i)) cap) ∧ ∃ q, w' = putRow (Value.int .i64) (Sort.ahead w q) blk off (zs.take i ++ zs.drop j ++ List.replicate (j - i) 0).toArray := Any.slices_Delete_int Yba.laysNm223 blk off cap i j zs w hH hcap hm hij hj
open Go.RowKit Go.Lib Go.Sort in
/-- slices.Delete at []int, of an argument, for i ≤ j ≤ n: the slice cut to n - (j - i) elements; the n cells hold what stood ahead of i, what stood from j on, then zeros. (LAID: no walk: one application.) -/
theorem Yba.slices_Delete_int_cells (b off n c i j : Nat) (zs : List Int) (w : World) (hz : n ≤ zs.length) (hcap : n ≤ c) (hm : c ≤ 9223372036854775807) (hij : i ≤ j) (hj : j ≤ n) (hc : ∀ j, j < zs.length → w.cell? ⟨b, off + j, none⟩ = some (.int .i64 (zs.getD j 0))) (hf : ∀ j, j < n → w.frozen? ⟨b, off + j, none⟩ = false) :
    Calls Yba.prog 5 #[.slice (some ⟨b, off, none⟩) n c, .int .i64 i, .int .i64 j] w fun e w' => e = .returned (.slice (some ⟨b, off, none⟩) (n - (j - i)) c) ∧ ∃ q, w' = (w.drewN q).setCells b off (((zs.take n).take i ++ (zs.take n).drop j ++ List.replicate (j - i) 0).map (Value.int .i64)) := Any.slices_Delete_int_cells Yba.laysNm223 b off n c i j zs w hz hcap hm hij hj hc hf
open Go.RowKit Go.Lib in
/-- slices.Delete at []int of no element ('Delete(s, 0, 0)'): s comes back; the world is as it was. (LAID: no walk: one application.) -/
theorem Yba.slices_Delete_int_empty (a : Option Addr) (c : Nat) (w : World) :
    Calls Yba.prog 5 #[.slice a 0 c, .int .i64 0, .int .i64 0] w fun e w' => e = .returned (.slice a 0 c) ∧ w' = w := Any.slices_Delete_int_empty Yba.laysNm223 a c w
end Go.Proofs
