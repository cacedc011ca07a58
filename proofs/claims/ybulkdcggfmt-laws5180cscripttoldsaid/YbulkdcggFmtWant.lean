/-
  THE WALK of zzs5180cwant.
-/
import Derived.Test.YbulkdcggFmtBase
namespace Go.Proofs.YbulkdcggFmt
open Go.RowKit

set_option maxHeartbeats 6400000 in
set_option maxRecDepth 100000 in
theorem want0 (w : World) : Calls Ybaf.prog 7 #[.int .i64 0] w fun e w' => ∃ g, e = .returned (.slice (some ⟨g, 0, none⟩) 17 17) ∧ Buf w' g (respOf 0) ∧ g < w'.heap.size ∧ w.heap.size ≤ g ∧ Below w.heap.size w w' := by
  have hmk : ∀ W : World, (Instr.makeSlice 25 (.int .i64 17) (.int .i64 17)).run Ybaf.prog W = .ok (.slice (some ⟨W.heap.size, 0, none⟩) 17 17) (W.alloc (.cells (madeCells #[.int .u8 0] 17) 5)) := fun W => run_make_row' (P := Ybaf.prog) 25 5 (.int .u8 0) 1 Ybaf.underlying25 info5 rfl .i64 .i64 17 (by omega) (by omega) W
  go_enter Ybaf.func7, Ybaf.ntmps7
  go_upto_region 20 with fail
  obtain ⟨hsz, hbel, hb0, hb1, hb2⟩ := alloc3 w (Obj.cells #[.int .u16 16128, .int .u16 32528, .int .u16 28476, .int .u16 28483, .int .u16 32544, .int .u16 28472] 64) (Obj.cells #[.int .i64 0, .int .i64 0, .int .i64 176, .int .i64 2, .int .i64 0, .int .i64 2] 65) (Obj.cells (madeCells #[.int .u8 0] 17) 5)
  simp only [Nat.add_assoc, Nat.reduceAdd]
  generalize ((w.alloc (Obj.cells #[.int .u16 16128, .int .u16 32528, .int .u16 28476, .int .u16 28483, .int .u16 32544, .int .u16 28472] 64)).alloc (Obj.cells #[.int .i64 0, .int .i64 0, .int .i64 176, .int .i64 2, .int .i64 0, .int .i64 2] 65)).alloc (Obj.cells (madeCells #[.int .u8 0] 17) 5) = W at *
  have T : Below (w.heap.size + 2) W W := Below.refl _ _
  have hz : W.heap.size = w.heap.size + 3 := hsz
  have B : Buf W (w.heap.size + 2) [0, 0, 0, 0, 0, 0, 0, 0, 0, 0, 0, 0, 0, 0, 0, 0, 0] := Buf.zeros hb2
  clear hmk
  have q := B.at (j := 4) (b := 0) rfl
  have r := B.free 4
  go_upto_region 21 with fail
  have B' : Buf (W.setCell ⟨w.heap.size + 2, 4, none⟩ (.int .u8 63)) (w.heap.size + 2) [0, 0, 0, 0, 63, 0, 0, 0, 0, 0, 0, 0, 0, 0, 0, 0, 0] := B.set (j := 4) (by decide) 63
  have T' : Below (w.heap.size + 2) W (W.setCell ⟨w.heap.size + 2, 4, none⟩ (.int .u8 63)) := T.trans (below_set (Nat.le_refl _))
  have hz' : (W.setCell ⟨w.heap.size + 2, 4, none⟩ (.int .u8 63)).heap.size = w.heap.size + 3 := size_set.trans hz
  generalize W.setCell ⟨w.heap.size + 2, 4, none⟩ (.int .u8 63) = W1 at *
  clear B T hz q r
  have B := B'
  have T := T'
  have hz := hz'
  clear B' T' hz'
  have q := B.at (j := 5) (b := 0) rfl
  have r := B.free 5
  go_upto_region 22 with fail
  have B' : Buf (W1.setCell ⟨w.heap.size + 2, 5, none⟩ (.int .u8 0)) (w.heap.size + 2) [0, 0, 0, 0, 63, 0, 0, 0, 0, 0, 0, 0, 0, 0, 0, 0, 0] := B.set (j := 5) (by decide) 0
  have T' : Below (w.heap.size + 2) W (W1.setCell ⟨w.heap.size + 2, 5, none⟩ (.int .u8 0)) := T.trans (below_set (Nat.le_refl _))
  have hz' : (W1.setCell ⟨w.heap.size + 2, 5, none⟩ (.int .u8 0)).heap.size = w.heap.size + 3 := size_set.trans hz
  generalize W1.setCell ⟨w.heap.size + 2, 5, none⟩ (.int .u8 0) = W2 at *
  clear B T hz q r
  have B := B'
  have T := T'
  have hz := hz'
  clear B' T' hz'
  have q := B.at (j := 6) (b := 0) rfl
  have r := B.free 6
  go_upto_region 23 with fail
  have B' : Buf (W2.setCell ⟨w.heap.size + 2, 6, none⟩ (.int .u8 2)) (w.heap.size + 2) [0, 0, 0, 0, 63, 0, 2, 0, 0, 0, 0, 0, 0, 0, 0, 0, 0] := B.set (j := 6) (by decide) 2
  have T' : Below (w.heap.size + 2) W (W2.setCell ⟨w.heap.size + 2, 6, none⟩ (.int .u8 2)) := T.trans (below_set (Nat.le_refl _))
  have hz' : (W2.setCell ⟨w.heap.size + 2, 6, none⟩ (.int .u8 2)).heap.size = w.heap.size + 3 := size_set.trans hz
  generalize W2.setCell ⟨w.heap.size + 2, 6, none⟩ (.int .u8 2) = W3 at *
  clear B T hz q r
  have B := B'
  have T := T'
  have hz := hz'
  clear B' T' hz'
  have q := B.at (j := 12) (b := 0) rfl
  have r := B.free 12
  go_upto_region 24 with fail
  have B' : Buf (W3.setCell ⟨w.heap.size + 2, 12, none⟩ (.int .u8 4)) (w.heap.size + 2) [0, 0, 0, 0, 63, 0, 2, 0, 0, 0, 0, 0, 4, 0, 0, 0, 0] := B.set (j := 12) (by decide) 4
  have T' : Below (w.heap.size + 2) W (W3.setCell ⟨w.heap.size + 2, 12, none⟩ (.int .u8 4)) := T.trans (below_set (Nat.le_refl _))
  have hz' : (W3.setCell ⟨w.heap.size + 2, 12, none⟩ (.int .u8 4)).heap.size = w.heap.size + 3 := size_set.trans hz
  generalize W3.setCell ⟨w.heap.size + 2, 12, none⟩ (.int .u8 4) = W4 at *
  clear B T hz q r
  have B := B'
  have T := T'
  have hz := hz'
  clear B' T' hz'
  have q := B.at (j := 13) (b := 0) rfl
  have r := B.free 13
  go_upto_region 25 with fail
  have B' : Buf (W4.setCell ⟨w.heap.size + 2, 13, none⟩ (.int .u8 128)) (w.heap.size + 2) [0, 0, 0, 0, 63, 0, 2, 0, 0, 0, 0, 0, 4, 128, 0, 0, 0] := B.set (j := 13) (by decide) 128
  have T' : Below (w.heap.size + 2) W (W4.setCell ⟨w.heap.size + 2, 13, none⟩ (.int .u8 128)) := T.trans (below_set (Nat.le_refl _))
  have hz' : (W4.setCell ⟨w.heap.size + 2, 13, none⟩ (.int .u8 128)).heap.size = w.heap.size + 3 := size_set.trans hz
  generalize W4.setCell ⟨w.heap.size + 2, 13, none⟩ (.int .u8 128) = W5 at *
  clear B T hz q r
  have B := B'
  have T := T'
  have hz := hz'
  clear B' T' hz'
  have q := B.at (j := 6) (b := 2) rfl
  have r := B.free 6
  go_upto_region 28 with fail
  have B' : Buf (W5.setCell ⟨w.heap.size + 2, 6, none⟩ (.int .u8 1)) (w.heap.size + 2) [0, 0, 0, 0, 63, 0, 1, 0, 0, 0, 0, 0, 4, 128, 0, 0, 0] := B.set (j := 6) (by decide) 1
  have T' : Below (w.heap.size + 2) W (W5.setCell ⟨w.heap.size + 2, 6, none⟩ (.int .u8 1)) := T.trans (below_set (Nat.le_refl _))
  have hz' : (W5.setCell ⟨w.heap.size + 2, 6, none⟩ (.int .u8 1)).heap.size = w.heap.size + 3 := size_set.trans hz
  generalize W5.setCell ⟨w.heap.size + 2, 6, none⟩ (.int .u8 1) = W6 at *
  clear B T hz q r
  have B := B'
  have T := T'
  have hz := hz'
  clear B' T' hz'
  have q := B.at (j := 14) (b := 0) rfl
  have r := B.free 14
  go_upto_region 29 with fail
  have B' : Buf (W6.setCell ⟨w.heap.size + 2, 14, none⟩ (.int .u8 2)) (w.heap.size + 2) [0, 0, 0, 0, 63, 0, 1, 0, 0, 0, 0, 0, 4, 128, 2, 0, 0] := B.set (j := 14) (by decide) 2
  have T' : Below (w.heap.size + 2) W (W6.setCell ⟨w.heap.size + 2, 14, none⟩ (.int .u8 2)) := T.trans (below_set (Nat.le_refl _))
  have hz' : (W6.setCell ⟨w.heap.size + 2, 14, none⟩ (.int .u8 2)).heap.size = w.heap.size + 3 := size_set.trans hz
  generalize W6.setCell ⟨w.heap.size + 2, 14, none⟩ (.int .u8 2) = W7 at *
  clear B T hz q r
  have B := B'
  have T := T'
  have hz := hz'
  clear B' T' hz'
  go_wp2_with fail
  go_ret
  exact ⟨w.heap.size + 2, rfl, B, by omega, by omega, hbel.trans (T.mono (by omega))⟩

set_option maxHeartbeats 6400000 in
set_option maxRecDepth 100000 in
theorem want1 (w : World) : Calls Ybaf.prog 7 #[.int .i64 1] w fun e w' => ∃ g, e = .returned (.slice (some ⟨g, 0, none⟩) 17 17) ∧ Buf w' g (respOf 1) ∧ g < w'.heap.size ∧ w.heap.size ≤ g ∧ Below w.heap.size w w' := by
  have hmk : ∀ W : World, (Instr.makeSlice 25 (.int .i64 17) (.int .i64 17)).run Ybaf.prog W = .ok (.slice (some ⟨W.heap.size, 0, none⟩) 17 17) (W.alloc (.cells (madeCells #[.int .u8 0] 17) 5)) := fun W => run_make_row' (P := Ybaf.prog) 25 5 (.int .u8 0) 1 Ybaf.underlying25 info5 rfl .i64 .i64 17 (by omega) (by omega) W
  go_enter Ybaf.func7, Ybaf.ntmps7
  go_upto_region 20 with fail
  obtain ⟨hsz, hbel, hb0, hb1, hb2⟩ := alloc3 w (Obj.cells #[.int .u16 16128, .int .u16 32528, .int .u16 28476, .int .u16 28483, .int .u16 32544, .int .u16 28472] 64) (Obj.cells #[.int .i64 0, .int .i64 0, .int .i64 176, .int .i64 2, .int .i64 0, .int .i64 2] 65) (Obj.cells (madeCells #[.int .u8 0] 17) 5)
  simp only [Nat.add_assoc, Nat.reduceAdd]
  generalize ((w.alloc (Obj.cells #[.int .u16 16128, .int .u16 32528, .int .u16 28476, .int .u16 28483, .int .u16 32544, .int .u16 28472] 64)).alloc (Obj.cells #[.int .i64 0, .int .i64 0, .int .i64 176, .int .i64 2, .int .i64 0, .int .i64 2] 65)).alloc (Obj.cells (madeCells #[.int .u8 0] 17) 5) = W at *
  have T : Below (w.heap.size + 2) W W := Below.refl _ _
  have hz : W.heap.size = w.heap.size + 3 := hsz
  have B : Buf W (w.heap.size + 2) [0, 0, 0, 0, 0, 0, 0, 0, 0, 0, 0, 0, 0, 0, 0, 0, 0] := Buf.zeros hb2
  clear hmk
  have q := B.at (j := 4) (b := 0) rfl
  have r := B.free 4
  go_upto_region 21 with fail
  have B' : Buf (W.setCell ⟨w.heap.size + 2, 4, none⟩ (.int .u8 127)) (w.heap.size + 2) [0, 0, 0, 0, 127, 0, 0, 0, 0, 0, 0, 0, 0, 0, 0, 0, 0] := B.set (j := 4) (by decide) 127
  have T' : Below (w.heap.size + 2) W (W.setCell ⟨w.heap.size + 2, 4, none⟩ (.int .u8 127)) := T.trans (below_set (Nat.le_refl _))
  have hz' : (W.setCell ⟨w.heap.size + 2, 4, none⟩ (.int .u8 127)).heap.size = w.heap.size + 3 := size_set.trans hz
  generalize W.setCell ⟨w.heap.size + 2, 4, none⟩ (.int .u8 127) = W1 at *
  clear B T hz q r
  have B := B'
  have T := T'
  have hz := hz'
  clear B' T' hz'
  have q := B.at (j := 5) (b := 0) rfl
  have r := B.free 5
  go_upto_region 22 with fail
  have B' : Buf (W1.setCell ⟨w.heap.size + 2, 5, none⟩ (.int .u8 16)) (w.heap.size + 2) [0, 0, 0, 0, 127, 16, 0, 0, 0, 0, 0, 0, 0, 0, 0, 0, 0] := B.set (j := 5) (by decide) 16
  have T' : Below (w.heap.size + 2) W (W1.setCell ⟨w.heap.size + 2, 5, none⟩ (.int .u8 16)) := T.trans (below_set (Nat.le_refl _))
  have hz' : (W1.setCell ⟨w.heap.size + 2, 5, none⟩ (.int .u8 16)).heap.size = w.heap.size + 3 := size_set.trans hz
  generalize W1.setCell ⟨w.heap.size + 2, 5, none⟩ (.int .u8 16) = W2 at *
  clear B T hz q r
  have B := B'
  have T := T'
  have hz := hz'
  clear B' T' hz'
  have q := B.at (j := 6) (b := 0) rfl
  have r := B.free 6
  go_upto_region 23 with fail
  have B' : Buf (W2.setCell ⟨w.heap.size + 2, 6, none⟩ (.int .u8 2)) (w.heap.size + 2) [0, 0, 0, 0, 127, 16, 2, 0, 0, 0, 0, 0, 0, 0, 0, 0, 0] := B.set (j := 6) (by decide) 2
  have T' : Below (w.heap.size + 2) W (W2.setCell ⟨w.heap.size + 2, 6, none⟩ (.int .u8 2)) := T.trans (below_set (Nat.le_refl _))
  have hz' : (W2.setCell ⟨w.heap.size + 2, 6, none⟩ (.int .u8 2)).heap.size = w.heap.size + 3 := size_set.trans hz
  generalize W2.setCell ⟨w.heap.size + 2, 6, none⟩ (.int .u8 2) = W3 at *
  clear B T hz q r
  have B := B'
  have T := T'
  have hz := hz'
  clear B' T' hz'
  have q := B.at (j := 12) (b := 0) rfl
  have r := B.free 12
  go_upto_region 24 with fail
  have B' : Buf (W3.setCell ⟨w.heap.size + 2, 12, none⟩ (.int .u8 4)) (w.heap.size + 2) [0, 0, 0, 0, 127, 16, 2, 0, 0, 0, 0, 0, 4, 0, 0, 0, 0] := B.set (j := 12) (by decide) 4
  have T' : Below (w.heap.size + 2) W (W3.setCell ⟨w.heap.size + 2, 12, none⟩ (.int .u8 4)) := T.trans (below_set (Nat.le_refl _))
  have hz' : (W3.setCell ⟨w.heap.size + 2, 12, none⟩ (.int .u8 4)).heap.size = w.heap.size + 3 := size_set.trans hz
  generalize W3.setCell ⟨w.heap.size + 2, 12, none⟩ (.int .u8 4) = W4 at *
  clear B T hz q r
  have B := B'
  have T := T'
  have hz := hz'
  clear B' T' hz'
  have q := B.at (j := 13) (b := 0) rfl
  have r := B.free 13
  go_upto_region 25 with fail
  have B' : Buf (W4.setCell ⟨w.heap.size + 2, 13, none⟩ (.int .u8 128)) (w.heap.size + 2) [0, 0, 0, 0, 127, 16, 2, 0, 0, 0, 0, 0, 4, 128, 0, 0, 0] := B.set (j := 13) (by decide) 128
  have T' : Below (w.heap.size + 2) W (W4.setCell ⟨w.heap.size + 2, 13, none⟩ (.int .u8 128)) := T.trans (below_set (Nat.le_refl _))
  have hz' : (W4.setCell ⟨w.heap.size + 2, 13, none⟩ (.int .u8 128)).heap.size = w.heap.size + 3 := size_set.trans hz
  generalize W4.setCell ⟨w.heap.size + 2, 13, none⟩ (.int .u8 128) = W5 at *
  clear B T hz q r
  have B := B'
  have T := T'
  have hz := hz'
  clear B' T' hz'
  have q := B.at (j := 15) (b := 0) rfl
  have r := B.free 15
  go_upto_region 31 with fail
  have B' : Buf (W5.setCell ⟨w.heap.size + 2, 15, none⟩ (.int .u8 2)) (w.heap.size + 2) [0, 0, 0, 0, 127, 16, 2, 0, 0, 0, 0, 0, 4, 128, 0, 2, 0] := B.set (j := 15) (by decide) 2
  have T' : Below (w.heap.size + 2) W (W5.setCell ⟨w.heap.size + 2, 15, none⟩ (.int .u8 2)) := T.trans (below_set (Nat.le_refl _))
  have hz' : (W5.setCell ⟨w.heap.size + 2, 15, none⟩ (.int .u8 2)).heap.size = w.heap.size + 3 := size_set.trans hz
  generalize W5.setCell ⟨w.heap.size + 2, 15, none⟩ (.int .u8 2) = W6 at *
  clear B T hz q r
  have B := B'
  have T := T'
  have hz := hz'
  clear B' T' hz'
  go_wp2_with fail
  go_ret
  exact ⟨w.heap.size + 2, rfl, B, by omega, by omega, hbel.trans (T.mono (by omega))⟩

set_option maxHeartbeats 6400000 in
set_option maxRecDepth 100000 in
theorem want2 (w : World) : Calls Ybaf.prog 7 #[.int .i64 2] w fun e w' => ∃ g, e = .returned (.slice (some ⟨g, 0, none⟩) 15 15) ∧ Buf w' g (respOf 2) ∧ g < w'.heap.size ∧ w.heap.size ≤ g ∧ Below w.heap.size w w' := by
  have hmk : ∀ W : World, (Instr.makeSlice 25 (.int .i64 15) (.int .i64 15)).run Ybaf.prog W = .ok (.slice (some ⟨W.heap.size, 0, none⟩) 15 15) (W.alloc (.cells (madeCells #[.int .u8 0] 15) 5)) := fun W => run_make_row' (P := Ybaf.prog) 25 5 (.int .u8 0) 1 Ybaf.underlying25 info5 rfl .i64 .i64 15 (by omega) (by omega) W
  go_enter Ybaf.func7, Ybaf.ntmps7
  go_upto_region 6 with fail
  obtain ⟨hsz, hbel, hb0, hb1, hb2⟩ := alloc3 w (Obj.cells #[.int .u16 16128, .int .u16 32528, .int .u16 28476, .int .u16 28483, .int .u16 32544, .int .u16 28472] 64) (Obj.cells #[.int .i64 0, .int .i64 0, .int .i64 176, .int .i64 2, .int .i64 0, .int .i64 2] 65) (Obj.cells (madeCells #[.int .u8 0] 15) 5)
  simp only [Nat.add_assoc, Nat.reduceAdd]
  generalize ((w.alloc (Obj.cells #[.int .u16 16128, .int .u16 32528, .int .u16 28476, .int .u16 28483, .int .u16 32544, .int .u16 28472] 64)).alloc (Obj.cells #[.int .i64 0, .int .i64 0, .int .i64 176, .int .i64 2, .int .i64 0, .int .i64 2] 65)).alloc (Obj.cells (madeCells #[.int .u8 0] 15) 5) = W at *
  have T : Below (w.heap.size + 2) W W := Below.refl _ _
  have hz : W.heap.size = w.heap.size + 3 := hsz
  have B : Buf W (w.heap.size + 2) [0, 0, 0, 0, 0, 0, 0, 0, 0, 0, 0, 0, 0, 0, 0] := Buf.zeros hb2
  clear hmk
  have x1 : W.cell? ⟨w.heap.size + 1, 2, none⟩ = some (.int .i64 176) := by rw [T.cell (by simp only; omega)]; simp [World.cell?, hb1]
  have q := B.at (j := 2) (b := 0) rfl
  have r := B.free 2
  go_upto_region 7 with fail
  have B' : Buf (W.setCell ⟨w.heap.size + 2, 2, none⟩ (.int .u8 0)) (w.heap.size + 2) [0, 0, 0, 0, 0, 0, 0, 0, 0, 0, 0, 0, 0, 0, 0] := B.set (j := 2) (by decide) 0
  have T' : Below (w.heap.size + 2) W (W.setCell ⟨w.heap.size + 2, 2, none⟩ (.int .u8 0)) := T.trans (below_set (Nat.le_refl _))
  have hz' : (W.setCell ⟨w.heap.size + 2, 2, none⟩ (.int .u8 0)).heap.size = w.heap.size + 3 := size_set.trans hz
  generalize W.setCell ⟨w.heap.size + 2, 2, none⟩ (.int .u8 0) = W1 at *
  clear B T hz q r x1
  have B := B'
  have T := T'
  have hz := hz'
  clear B' T' hz'
  have x1 : W1.cell? ⟨w.heap.size + 1, 2, none⟩ = some (.int .i64 176) := by rw [T.cell (by simp only; omega)]; simp [World.cell?, hb1]
  have q := B.at (j := 3) (b := 0) rfl
  have r := B.free 3
  go_upto_region 8 with fail
  have B' : Buf (W1.setCell ⟨w.heap.size + 2, 3, none⟩ (.int .u8 176)) (w.heap.size + 2) [0, 0, 0, 176, 0, 0, 0, 0, 0, 0, 0, 0, 0, 0, 0] := B.set (j := 3) (by decide) 176
  have T' : Below (w.heap.size + 2) W (W1.setCell ⟨w.heap.size + 2, 3, none⟩ (.int .u8 176)) := T.trans (below_set (Nat.le_refl _))
  have hz' : (W1.setCell ⟨w.heap.size + 2, 3, none⟩ (.int .u8 176)).heap.size = w.heap.size + 3 := size_set.trans hz
  generalize W1.setCell ⟨w.heap.size + 2, 3, none⟩ (.int .u8 176) = W2 at *
  clear B T hz q r x1
  have B := B'
  have T := T'
  have hz := hz'
  clear B' T' hz'
  have q := B.at (j := 4) (b := 0) rfl
  have r := B.free 4
  go_upto_region 9 with fail
  have B' : Buf (W2.setCell ⟨w.heap.size + 2, 4, none⟩ (.int .u8 111)) (w.heap.size + 2) [0, 0, 0, 176, 111, 0, 0, 0, 0, 0, 0, 0, 0, 0, 0] := B.set (j := 4) (by decide) 111
  have T' : Below (w.heap.size + 2) W (W2.setCell ⟨w.heap.size + 2, 4, none⟩ (.int .u8 111)) := T.trans (below_set (Nat.le_refl _))
  have hz' : (W2.setCell ⟨w.heap.size + 2, 4, none⟩ (.int .u8 111)).heap.size = w.heap.size + 3 := size_set.trans hz
  generalize W2.setCell ⟨w.heap.size + 2, 4, none⟩ (.int .u8 111) = W3 at *
  clear B T hz q r
  have B := B'
  have T := T'
  have hz := hz'
  clear B' T' hz'
  have q := B.at (j := 5) (b := 0) rfl
  have r := B.free 5
  go_upto_region 10 with fail
  have B' : Buf (W3.setCell ⟨w.heap.size + 2, 5, none⟩ (.int .u8 60)) (w.heap.size + 2) [0, 0, 0, 176, 111, 60, 0, 0, 0, 0, 0, 0, 0, 0, 0] := B.set (j := 5) (by decide) 60
  have T' : Below (w.heap.size + 2) W (W3.setCell ⟨w.heap.size + 2, 5, none⟩ (.int .u8 60)) := T.trans (below_set (Nat.le_refl _))
  have hz' : (W3.setCell ⟨w.heap.size + 2, 5, none⟩ (.int .u8 60)).heap.size = w.heap.size + 3 := size_set.trans hz
  generalize W3.setCell ⟨w.heap.size + 2, 5, none⟩ (.int .u8 60) = W4 at *
  clear B T hz q r
  have B := B'
  have T := T'
  have hz := hz'
  clear B' T' hz'
  have q := B.at (j := 6) (b := 0) rfl
  have r := B.free 6
  go_upto_region 11 with fail
  have B' : Buf (W4.setCell ⟨w.heap.size + 2, 6, none⟩ (.int .u8 4)) (w.heap.size + 2) [0, 0, 0, 176, 111, 60, 4, 0, 0, 0, 0, 0, 0, 0, 0] := B.set (j := 6) (by decide) 4
  have T' : Below (w.heap.size + 2) W (W4.setCell ⟨w.heap.size + 2, 6, none⟩ (.int .u8 4)) := T.trans (below_set (Nat.le_refl _))
  have hz' : (W4.setCell ⟨w.heap.size + 2, 6, none⟩ (.int .u8 4)).heap.size = w.heap.size + 3 := size_set.trans hz
  generalize W4.setCell ⟨w.heap.size + 2, 6, none⟩ (.int .u8 4) = W5 at *
  clear B T hz q r
  have B := B'
  have T := T'
  have hz := hz'
  clear B' T' hz'
  have q := B.at (j := 9) (b := 0) rfl
  have r := B.free 9
  go_upto_region 12 with fail
  have B' : Buf (W5.setCell ⟨w.heap.size + 2, 9, none⟩ (.int .u8 240)) (w.heap.size + 2) [0, 0, 0, 176, 111, 60, 4, 0, 0, 240, 0, 0, 0, 0, 0] := B.set (j := 9) (by decide) 240
  have T' : Below (w.heap.size + 2) W (W5.setCell ⟨w.heap.size + 2, 9, none⟩ (.int .u8 240)) := T.trans (below_set (Nat.le_refl _))
  have hz' : (W5.setCell ⟨w.heap.size + 2, 9, none⟩ (.int .u8 240)).heap.size = w.heap.size + 3 := size_set.trans hz
  generalize W5.setCell ⟨w.heap.size + 2, 9, none⟩ (.int .u8 240) = W6 at *
  clear B T hz q r
  have B := B'
  have T := T'
  have hz := hz'
  clear B' T' hz'
  have q := B.at (j := 10) (b := 0) rfl
  have r := B.free 10
  go_upto_region 13 with fail
  have B' : Buf (W6.setCell ⟨w.heap.size + 2, 10, none⟩ (.int .u8 255)) (w.heap.size + 2) [0, 0, 0, 176, 111, 60, 4, 0, 0, 240, 255, 0, 0, 0, 0] := B.set (j := 10) (by decide) 255
  have T' : Below (w.heap.size + 2) W (W6.setCell ⟨w.heap.size + 2, 10, none⟩ (.int .u8 255)) := T.trans (below_set (Nat.le_refl _))
  have hz' : (W6.setCell ⟨w.heap.size + 2, 10, none⟩ (.int .u8 255)).heap.size = w.heap.size + 3 := size_set.trans hz
  generalize W6.setCell ⟨w.heap.size + 2, 10, none⟩ (.int .u8 255) = W7 at *
  clear B T hz q r
  have B := B'
  have T := T'
  have hz := hz'
  clear B' T' hz'
  have q := B.at (j := 11) (b := 0) rfl
  have r := B.free 11
  go_upto_region 14 with fail
  have B' : Buf (W7.setCell ⟨w.heap.size + 2, 11, none⟩ (.int .u8 5)) (w.heap.size + 2) [0, 0, 0, 176, 111, 60, 4, 0, 0, 240, 255, 5, 0, 0, 0] := B.set (j := 11) (by decide) 5
  have T' : Below (w.heap.size + 2) W (W7.setCell ⟨w.heap.size + 2, 11, none⟩ (.int .u8 5)) := T.trans (below_set (Nat.le_refl _))
  have hz' : (W7.setCell ⟨w.heap.size + 2, 11, none⟩ (.int .u8 5)).heap.size = w.heap.size + 3 := size_set.trans hz
  generalize W7.setCell ⟨w.heap.size + 2, 11, none⟩ (.int .u8 5) = W8 at *
  clear B T hz q r
  have B := B'
  have T := T'
  have hz := hz'
  clear B' T' hz'
  have q := B.at (j := 12) (b := 0) rfl
  have r := B.free 12
  go_upto_region 15 with fail
  have B' : Buf (W8.setCell ⟨w.heap.size + 2, 12, none⟩ (.int .u8 2)) (w.heap.size + 2) [0, 0, 0, 176, 111, 60, 4, 0, 0, 240, 255, 5, 2, 0, 0] := B.set (j := 12) (by decide) 2
  have T' : Below (w.heap.size + 2) W (W8.setCell ⟨w.heap.size + 2, 12, none⟩ (.int .u8 2)) := T.trans (below_set (Nat.le_refl _))
  have hz' : (W8.setCell ⟨w.heap.size + 2, 12, none⟩ (.int .u8 2)).heap.size = w.heap.size + 3 := size_set.trans hz
  generalize W8.setCell ⟨w.heap.size + 2, 12, none⟩ (.int .u8 2) = W9 at *
  clear B T hz q r
  have B := B'
  have T := T'
  have hz := hz'
  clear B' T' hz'
  have q := B.at (j := 13) (b := 0) rfl
  have r := B.free 13
  go_upto_region 17 with fail
  have B' : Buf (W9.setCell ⟨w.heap.size + 2, 13, none⟩ (.int .u8 1)) (w.heap.size + 2) [0, 0, 0, 176, 111, 60, 4, 0, 0, 240, 255, 5, 2, 1, 0] := B.set (j := 13) (by decide) 1
  have T' : Below (w.heap.size + 2) W (W9.setCell ⟨w.heap.size + 2, 13, none⟩ (.int .u8 1)) := T.trans (below_set (Nat.le_refl _))
  have hz' : (W9.setCell ⟨w.heap.size + 2, 13, none⟩ (.int .u8 1)).heap.size = w.heap.size + 3 := size_set.trans hz
  generalize W9.setCell ⟨w.heap.size + 2, 13, none⟩ (.int .u8 1) = W10 at *
  clear B T hz q r
  have B := B'
  have T := T'
  have hz := hz'
  clear B' T' hz'
  have q := B.at (j := 14) (b := 0) rfl
  have r := B.free 14
  go_upto_region 18 with fail
  have B' : Buf (W10.setCell ⟨w.heap.size + 2, 14, none⟩ (.int .u8 176)) (w.heap.size + 2) [0, 0, 0, 176, 111, 60, 4, 0, 0, 240, 255, 5, 2, 1, 176] := B.set (j := 14) (by decide) 176
  have T' : Below (w.heap.size + 2) W (W10.setCell ⟨w.heap.size + 2, 14, none⟩ (.int .u8 176)) := T.trans (below_set (Nat.le_refl _))
  have hz' : (W10.setCell ⟨w.heap.size + 2, 14, none⟩ (.int .u8 176)).heap.size = w.heap.size + 3 := size_set.trans hz
  generalize W10.setCell ⟨w.heap.size + 2, 14, none⟩ (.int .u8 176) = W11 at *
  clear B T hz q r
  have B := B'
  have T := T'
  have hz := hz'
  clear B' T' hz'
  go_wp2_with fail
  go_ret
  exact ⟨w.heap.size + 2, rfl, B, by omega, by omega, hbel.trans (T.mono (by omega))⟩

set_option maxHeartbeats 6400000 in
set_option maxRecDepth 100000 in
theorem want3 (w : World) : Calls Ybaf.prog 7 #[.int .i64 3] w fun e w' => ∃ g, e = .returned (.slice (some ⟨g, 0, none⟩) 15 15) ∧ Buf w' g (respOf 3) ∧ g < w'.heap.size ∧ w.heap.size ≤ g ∧ Below w.heap.size w w' := by
  have hmk : ∀ W : World, (Instr.makeSlice 25 (.int .i64 15) (.int .i64 15)).run Ybaf.prog W = .ok (.slice (some ⟨W.heap.size, 0, none⟩) 15 15) (W.alloc (.cells (madeCells #[.int .u8 0] 15) 5)) := fun W => run_make_row' (P := Ybaf.prog) 25 5 (.int .u8 0) 1 Ybaf.underlying25 info5 rfl .i64 .i64 15 (by omega) (by omega) W
  go_enter Ybaf.func7, Ybaf.ntmps7
  go_upto_region 6 with fail
  obtain ⟨hsz, hbel, hb0, hb1, hb2⟩ := alloc3 w (Obj.cells #[.int .u16 16128, .int .u16 32528, .int .u16 28476, .int .u16 28483, .int .u16 32544, .int .u16 28472] 64) (Obj.cells #[.int .i64 0, .int .i64 0, .int .i64 176, .int .i64 2, .int .i64 0, .int .i64 2] 65) (Obj.cells (madeCells #[.int .u8 0] 15) 5)
  simp only [Nat.add_assoc, Nat.reduceAdd]
  generalize ((w.alloc (Obj.cells #[.int .u16 16128, .int .u16 32528, .int .u16 28476, .int .u16 28483, .int .u16 32544, .int .u16 28472] 64)).alloc (Obj.cells #[.int .i64 0, .int .i64 0, .int .i64 176, .int .i64 2, .int .i64 0, .int .i64 2] 65)).alloc (Obj.cells (madeCells #[.int .u8 0] 15) 5) = W at *
  have T : Below (w.heap.size + 2) W W := Below.refl _ _
  have hz : W.heap.size = w.heap.size + 3 := hsz
  have B : Buf W (w.heap.size + 2) [0, 0, 0, 0, 0, 0, 0, 0, 0, 0, 0, 0, 0, 0, 0] := Buf.zeros hb2
  clear hmk
  have x1 : W.cell? ⟨w.heap.size + 1, 3, none⟩ = some (.int .i64 2) := by rw [T.cell (by simp only; omega)]; simp [World.cell?, hb1]
  have q := B.at (j := 2) (b := 0) rfl
  have r := B.free 2
  go_upto_region 7 with fail
  have B' : Buf (W.setCell ⟨w.heap.size + 2, 2, none⟩ (.int .u8 0)) (w.heap.size + 2) [0, 0, 0, 0, 0, 0, 0, 0, 0, 0, 0, 0, 0, 0, 0] := B.set (j := 2) (by decide) 0
  have T' : Below (w.heap.size + 2) W (W.setCell ⟨w.heap.size + 2, 2, none⟩ (.int .u8 0)) := T.trans (below_set (Nat.le_refl _))
  have hz' : (W.setCell ⟨w.heap.size + 2, 2, none⟩ (.int .u8 0)).heap.size = w.heap.size + 3 := size_set.trans hz
  generalize W.setCell ⟨w.heap.size + 2, 2, none⟩ (.int .u8 0) = W1 at *
  clear B T hz q r x1
  have B := B'
  have T := T'
  have hz := hz'
  clear B' T' hz'
  have x1 : W1.cell? ⟨w.heap.size + 1, 3, none⟩ = some (.int .i64 2) := by rw [T.cell (by simp only; omega)]; simp [World.cell?, hb1]
  have q := B.at (j := 3) (b := 0) rfl
  have r := B.free 3
  go_upto_region 8 with fail
  have B' : Buf (W1.setCell ⟨w.heap.size + 2, 3, none⟩ (.int .u8 2)) (w.heap.size + 2) [0, 0, 0, 2, 0, 0, 0, 0, 0, 0, 0, 0, 0, 0, 0] := B.set (j := 3) (by decide) 2
  have T' : Below (w.heap.size + 2) W (W1.setCell ⟨w.heap.size + 2, 3, none⟩ (.int .u8 2)) := T.trans (below_set (Nat.le_refl _))
  have hz' : (W1.setCell ⟨w.heap.size + 2, 3, none⟩ (.int .u8 2)).heap.size = w.heap.size + 3 := size_set.trans hz
  generalize W1.setCell ⟨w.heap.size + 2, 3, none⟩ (.int .u8 2) = W2 at *
  clear B T hz q r x1
  have B := B'
  have T := T'
  have hz := hz'
  clear B' T' hz'
  have q := B.at (j := 4) (b := 0) rfl
  have r := B.free 4
  go_upto_region 9 with fail
  have B' : Buf (W2.setCell ⟨w.heap.size + 2, 4, none⟩ (.int .u8 111)) (w.heap.size + 2) [0, 0, 0, 2, 111, 0, 0, 0, 0, 0, 0, 0, 0, 0, 0] := B.set (j := 4) (by decide) 111
  have T' : Below (w.heap.size + 2) W (W2.setCell ⟨w.heap.size + 2, 4, none⟩ (.int .u8 111)) := T.trans (below_set (Nat.le_refl _))
  have hz' : (W2.setCell ⟨w.heap.size + 2, 4, none⟩ (.int .u8 111)).heap.size = w.heap.size + 3 := size_set.trans hz
  generalize W2.setCell ⟨w.heap.size + 2, 4, none⟩ (.int .u8 111) = W3 at *
  clear B T hz q r
  have B := B'
  have T := T'
  have hz := hz'
  clear B' T' hz'
  have q := B.at (j := 5) (b := 0) rfl
  have r := B.free 5
  go_upto_region 10 with fail
  have B' : Buf (W3.setCell ⟨w.heap.size + 2, 5, none⟩ (.int .u8 67)) (w.heap.size + 2) [0, 0, 0, 2, 111, 67, 0, 0, 0, 0, 0, 0, 0, 0, 0] := B.set (j := 5) (by decide) 67
  have T' : Below (w.heap.size + 2) W (W3.setCell ⟨w.heap.size + 2, 5, none⟩ (.int .u8 67)) := T.trans (below_set (Nat.le_refl _))
  have hz' : (W3.setCell ⟨w.heap.size + 2, 5, none⟩ (.int .u8 67)).heap.size = w.heap.size + 3 := size_set.trans hz
  generalize W3.setCell ⟨w.heap.size + 2, 5, none⟩ (.int .u8 67) = W4 at *
  clear B T hz q r
  have B := B'
  have T := T'
  have hz := hz'
  clear B' T' hz'
  have q := B.at (j := 6) (b := 0) rfl
  have r := B.free 6
  go_upto_region 11 with fail
  have B' : Buf (W4.setCell ⟨w.heap.size + 2, 6, none⟩ (.int .u8 4)) (w.heap.size + 2) [0, 0, 0, 2, 111, 67, 4, 0, 0, 0, 0, 0, 0, 0, 0] := B.set (j := 6) (by decide) 4
  have T' : Below (w.heap.size + 2) W (W4.setCell ⟨w.heap.size + 2, 6, none⟩ (.int .u8 4)) := T.trans (below_set (Nat.le_refl _))
  have hz' : (W4.setCell ⟨w.heap.size + 2, 6, none⟩ (.int .u8 4)).heap.size = w.heap.size + 3 := size_set.trans hz
  generalize W4.setCell ⟨w.heap.size + 2, 6, none⟩ (.int .u8 4) = W5 at *
  clear B T hz q r
  have B := B'
  have T := T'
  have hz := hz'
  clear B' T' hz'
  have q := B.at (j := 9) (b := 0) rfl
  have r := B.free 9
  go_upto_region 12 with fail
  have B' : Buf (W5.setCell ⟨w.heap.size + 2, 9, none⟩ (.int .u8 240)) (w.heap.size + 2) [0, 0, 0, 2, 111, 67, 4, 0, 0, 240, 0, 0, 0, 0, 0] := B.set (j := 9) (by decide) 240
  have T' : Below (w.heap.size + 2) W (W5.setCell ⟨w.heap.size + 2, 9, none⟩ (.int .u8 240)) := T.trans (below_set (Nat.le_refl _))
  have hz' : (W5.setCell ⟨w.heap.size + 2, 9, none⟩ (.int .u8 240)).heap.size = w.heap.size + 3 := size_set.trans hz
  generalize W5.setCell ⟨w.heap.size + 2, 9, none⟩ (.int .u8 240) = W6 at *
  clear B T hz q r
  have B := B'
  have T := T'
  have hz := hz'
  clear B' T' hz'
  have q := B.at (j := 10) (b := 0) rfl
  have r := B.free 10
  go_upto_region 13 with fail
  have B' : Buf (W6.setCell ⟨w.heap.size + 2, 10, none⟩ (.int .u8 255)) (w.heap.size + 2) [0, 0, 0, 2, 111, 67, 4, 0, 0, 240, 255, 0, 0, 0, 0] := B.set (j := 10) (by decide) 255
  have T' : Below (w.heap.size + 2) W (W6.setCell ⟨w.heap.size + 2, 10, none⟩ (.int .u8 255)) := T.trans (below_set (Nat.le_refl _))
  have hz' : (W6.setCell ⟨w.heap.size + 2, 10, none⟩ (.int .u8 255)).heap.size = w.heap.size + 3 := size_set.trans hz
  generalize W6.setCell ⟨w.heap.size + 2, 10, none⟩ (.int .u8 255) = W7 at *
  clear B T hz q r
  have B := B'
  have T := T'
  have hz := hz'
  clear B' T' hz'
  have q := B.at (j := 11) (b := 0) rfl
  have r := B.free 11
  go_upto_region 14 with fail
  have B' : Buf (W7.setCell ⟨w.heap.size + 2, 11, none⟩ (.int .u8 5)) (w.heap.size + 2) [0, 0, 0, 2, 111, 67, 4, 0, 0, 240, 255, 5, 0, 0, 0] := B.set (j := 11) (by decide) 5
  have T' : Below (w.heap.size + 2) W (W7.setCell ⟨w.heap.size + 2, 11, none⟩ (.int .u8 5)) := T.trans (below_set (Nat.le_refl _))
  have hz' : (W7.setCell ⟨w.heap.size + 2, 11, none⟩ (.int .u8 5)).heap.size = w.heap.size + 3 := size_set.trans hz
  generalize W7.setCell ⟨w.heap.size + 2, 11, none⟩ (.int .u8 5) = W8 at *
  clear B T hz q r
  have B := B'
  have T := T'
  have hz := hz'
  clear B' T' hz'
  have q := B.at (j := 12) (b := 0) rfl
  have r := B.free 12
  go_upto_region 15 with fail
  have B' : Buf (W8.setCell ⟨w.heap.size + 2, 12, none⟩ (.int .u8 2)) (w.heap.size + 2) [0, 0, 0, 2, 111, 67, 4, 0, 0, 240, 255, 5, 2, 0, 0] := B.set (j := 12) (by decide) 2
  have T' : Below (w.heap.size + 2) W (W8.setCell ⟨w.heap.size + 2, 12, none⟩ (.int .u8 2)) := T.trans (below_set (Nat.le_refl _))
  have hz' : (W8.setCell ⟨w.heap.size + 2, 12, none⟩ (.int .u8 2)).heap.size = w.heap.size + 3 := size_set.trans hz
  generalize W8.setCell ⟨w.heap.size + 2, 12, none⟩ (.int .u8 2) = W9 at *
  clear B T hz q r
  have B := B'
  have T := T'
  have hz := hz'
  clear B' T' hz'
  go_wp2_with fail
  go_ret
  exact ⟨w.heap.size + 2, rfl, B, by omega, by omega, hbel.trans (T.mono (by omega))⟩

set_option maxHeartbeats 6400000 in
set_option maxRecDepth 100000 in
theorem want4 (w : World) : Calls Ybaf.prog 7 #[.int .i64 4] w fun e w' => ∃ g, e = .returned (.slice (some ⟨g, 0, none⟩) 17 17) ∧ Buf w' g (respOf 4) ∧ g < w'.heap.size ∧ w.heap.size ≤ g ∧ Below w.heap.size w w' := by
  have hmk : ∀ W : World, (Instr.makeSlice 25 (.int .i64 17) (.int .i64 17)).run Ybaf.prog W = .ok (.slice (some ⟨W.heap.size, 0, none⟩) 17 17) (W.alloc (.cells (madeCells #[.int .u8 0] 17) 5)) := fun W => run_make_row' (P := Ybaf.prog) 25 5 (.int .u8 0) 1 Ybaf.underlying25 info5 rfl .i64 .i64 17 (by omega) (by omega) W
  go_enter Ybaf.func7, Ybaf.ntmps7
  go_upto_region 20 with fail
  obtain ⟨hsz, hbel, hb0, hb1, hb2⟩ := alloc3 w (Obj.cells #[.int .u16 16128, .int .u16 32528, .int .u16 28476, .int .u16 28483, .int .u16 32544, .int .u16 28472] 64) (Obj.cells #[.int .i64 0, .int .i64 0, .int .i64 176, .int .i64 2, .int .i64 0, .int .i64 2] 65) (Obj.cells (madeCells #[.int .u8 0] 17) 5)
  simp only [Nat.add_assoc, Nat.reduceAdd]
  generalize ((w.alloc (Obj.cells #[.int .u16 16128, .int .u16 32528, .int .u16 28476, .int .u16 28483, .int .u16 32544, .int .u16 28472] 64)).alloc (Obj.cells #[.int .i64 0, .int .i64 0, .int .i64 176, .int .i64 2, .int .i64 0, .int .i64 2] 65)).alloc (Obj.cells (madeCells #[.int .u8 0] 17) 5) = W at *
  have T : Below (w.heap.size + 2) W W := Below.refl _ _
  have hz : W.heap.size = w.heap.size + 3 := hsz
  have B : Buf W (w.heap.size + 2) [0, 0, 0, 0, 0, 0, 0, 0, 0, 0, 0, 0, 0, 0, 0, 0, 0] := Buf.zeros hb2
  clear hmk
  have q := B.at (j := 4) (b := 0) rfl
  have r := B.free 4
  go_upto_region 21 with fail
  have B' : Buf (W.setCell ⟨w.heap.size + 2, 4, none⟩ (.int .u8 127)) (w.heap.size + 2) [0, 0, 0, 0, 127, 0, 0, 0, 0, 0, 0, 0, 0, 0, 0, 0, 0] := B.set (j := 4) (by decide) 127
  have T' : Below (w.heap.size + 2) W (W.setCell ⟨w.heap.size + 2, 4, none⟩ (.int .u8 127)) := T.trans (below_set (Nat.le_refl _))
  have hz' : (W.setCell ⟨w.heap.size + 2, 4, none⟩ (.int .u8 127)).heap.size = w.heap.size + 3 := size_set.trans hz
  generalize W.setCell ⟨w.heap.size + 2, 4, none⟩ (.int .u8 127) = W1 at *
  clear B T hz q r
  have B := B'
  have T := T'
  have hz := hz'
  clear B' T' hz'
  have q := B.at (j := 5) (b := 0) rfl
  have r := B.free 5
  go_upto_region 22 with fail
  have B' : Buf (W1.setCell ⟨w.heap.size + 2, 5, none⟩ (.int .u8 32)) (w.heap.size + 2) [0, 0, 0, 0, 127, 32, 0, 0, 0, 0, 0, 0, 0, 0, 0, 0, 0] := B.set (j := 5) (by decide) 32
  have T' : Below (w.heap.size + 2) W (W1.setCell ⟨w.heap.size + 2, 5, none⟩ (.int .u8 32)) := T.trans (below_set (Nat.le_refl _))
  have hz' : (W1.setCell ⟨w.heap.size + 2, 5, none⟩ (.int .u8 32)).heap.size = w.heap.size + 3 := size_set.trans hz
  generalize W1.setCell ⟨w.heap.size + 2, 5, none⟩ (.int .u8 32) = W2 at *
  clear B T hz q r
  have B := B'
  have T := T'
  have hz := hz'
  clear B' T' hz'
  have q := B.at (j := 6) (b := 0) rfl
  have r := B.free 6
  go_upto_region 23 with fail
  have B' : Buf (W2.setCell ⟨w.heap.size + 2, 6, none⟩ (.int .u8 2)) (w.heap.size + 2) [0, 0, 0, 0, 127, 32, 2, 0, 0, 0, 0, 0, 0, 0, 0, 0, 0] := B.set (j := 6) (by decide) 2
  have T' : Below (w.heap.size + 2) W (W2.setCell ⟨w.heap.size + 2, 6, none⟩ (.int .u8 2)) := T.trans (below_set (Nat.le_refl _))
  have hz' : (W2.setCell ⟨w.heap.size + 2, 6, none⟩ (.int .u8 2)).heap.size = w.heap.size + 3 := size_set.trans hz
  generalize W2.setCell ⟨w.heap.size + 2, 6, none⟩ (.int .u8 2) = W3 at *
  clear B T hz q r
  have B := B'
  have T := T'
  have hz := hz'
  clear B' T' hz'
  have q := B.at (j := 12) (b := 0) rfl
  have r := B.free 12
  go_upto_region 24 with fail
  have B' : Buf (W3.setCell ⟨w.heap.size + 2, 12, none⟩ (.int .u8 4)) (w.heap.size + 2) [0, 0, 0, 0, 127, 32, 2, 0, 0, 0, 0, 0, 4, 0, 0, 0, 0] := B.set (j := 12) (by decide) 4
  have T' : Below (w.heap.size + 2) W (W3.setCell ⟨w.heap.size + 2, 12, none⟩ (.int .u8 4)) := T.trans (below_set (Nat.le_refl _))
  have hz' : (W3.setCell ⟨w.heap.size + 2, 12, none⟩ (.int .u8 4)).heap.size = w.heap.size + 3 := size_set.trans hz
  generalize W3.setCell ⟨w.heap.size + 2, 12, none⟩ (.int .u8 4) = W4 at *
  clear B T hz q r
  have B := B'
  have T := T'
  have hz := hz'
  clear B' T' hz'
  have q := B.at (j := 13) (b := 0) rfl
  have r := B.free 13
  go_upto_region 25 with fail
  have B' : Buf (W4.setCell ⟨w.heap.size + 2, 13, none⟩ (.int .u8 128)) (w.heap.size + 2) [0, 0, 0, 0, 127, 32, 2, 0, 0, 0, 0, 0, 4, 128, 0, 0, 0] := B.set (j := 13) (by decide) 128
  have T' : Below (w.heap.size + 2) W (W4.setCell ⟨w.heap.size + 2, 13, none⟩ (.int .u8 128)) := T.trans (below_set (Nat.le_refl _))
  have hz' : (W4.setCell ⟨w.heap.size + 2, 13, none⟩ (.int .u8 128)).heap.size = w.heap.size + 3 := size_set.trans hz
  generalize W4.setCell ⟨w.heap.size + 2, 13, none⟩ (.int .u8 128) = W5 at *
  clear B T hz q r
  have B := B'
  have T := T'
  have hz := hz'
  clear B' T' hz'
  have q := B.at (j := 15) (b := 0) rfl
  have r := B.free 15
  go_upto_region 33 with fail
  have B' : Buf (W5.setCell ⟨w.heap.size + 2, 15, none⟩ (.int .u8 1)) (w.heap.size + 2) [0, 0, 0, 0, 127, 32, 2, 0, 0, 0, 0, 0, 4, 128, 0, 1, 0] := B.set (j := 15) (by decide) 1
  have T' : Below (w.heap.size + 2) W (W5.setCell ⟨w.heap.size + 2, 15, none⟩ (.int .u8 1)) := T.trans (below_set (Nat.le_refl _))
  have hz' : (W5.setCell ⟨w.heap.size + 2, 15, none⟩ (.int .u8 1)).heap.size = w.heap.size + 3 := size_set.trans hz
  generalize W5.setCell ⟨w.heap.size + 2, 15, none⟩ (.int .u8 1) = W6 at *
  clear B T hz q r
  have B := B'
  have T := T'
  have hz := hz'
  clear B' T' hz'
  go_wp2_with fail
  go_ret
  exact ⟨w.heap.size + 2, rfl, B, by omega, by omega, hbel.trans (T.mono (by omega))⟩

set_option maxHeartbeats 6400000 in
set_option maxRecDepth 100000 in
theorem want5 (w : World) : Calls Ybaf.prog 7 #[.int .i64 5] w fun e w' => ∃ g, e = .returned (.slice (some ⟨g, 0, none⟩) 15 15) ∧ Buf w' g (respOf 5) ∧ g < w'.heap.size ∧ w.heap.size ≤ g ∧ Below w.heap.size w w' := by
  have hmk : ∀ W : World, (Instr.makeSlice 25 (.int .i64 15) (.int .i64 15)).run Ybaf.prog W = .ok (.slice (some ⟨W.heap.size, 0, none⟩) 15 15) (W.alloc (.cells (madeCells #[.int .u8 0] 15) 5)) := fun W => run_make_row' (P := Ybaf.prog) 25 5 (.int .u8 0) 1 Ybaf.underlying25 info5 rfl .i64 .i64 15 (by omega) (by omega) W
  go_enter Ybaf.func7, Ybaf.ntmps7
  go_upto_region 6 with fail
  obtain ⟨hsz, hbel, hb0, hb1, hb2⟩ := alloc3 w (Obj.cells #[.int .u16 16128, .int .u16 32528, .int .u16 28476, .int .u16 28483, .int .u16 32544, .int .u16 28472] 64) (Obj.cells #[.int .i64 0, .int .i64 0, .int .i64 176, .int .i64 2, .int .i64 0, .int .i64 2] 65) (Obj.cells (madeCells #[.int .u8 0] 15) 5)
  simp only [Nat.add_assoc, Nat.reduceAdd]
  generalize ((w.alloc (Obj.cells #[.int .u16 16128, .int .u16 32528, .int .u16 28476, .int .u16 28483, .int .u16 32544, .int .u16 28472] 64)).alloc (Obj.cells #[.int .i64 0, .int .i64 0, .int .i64 176, .int .i64 2, .int .i64 0, .int .i64 2] 65)).alloc (Obj.cells (madeCells #[.int .u8 0] 15) 5) = W at *
  have T : Below (w.heap.size + 2) W W := Below.refl _ _
  have hz : W.heap.size = w.heap.size + 3 := hsz
  have B : Buf W (w.heap.size + 2) [0, 0, 0, 0, 0, 0, 0, 0, 0, 0, 0, 0, 0, 0, 0] := Buf.zeros hb2
  clear hmk
  have x1 : W.cell? ⟨w.heap.size + 1, 5, none⟩ = some (.int .i64 2) := by rw [T.cell (by simp only; omega)]; simp [World.cell?, hb1]
  have q := B.at (j := 2) (b := 0) rfl
  have r := B.free 2
  go_upto_region 7 with fail
  have B' : Buf (W.setCell ⟨w.heap.size + 2, 2, none⟩ (.int .u8 0)) (w.heap.size + 2) [0, 0, 0, 0, 0, 0, 0, 0, 0, 0, 0, 0, 0, 0, 0] := B.set (j := 2) (by decide) 0
  have T' : Below (w.heap.size + 2) W (W.setCell ⟨w.heap.size + 2, 2, none⟩ (.int .u8 0)) := T.trans (below_set (Nat.le_refl _))
  have hz' : (W.setCell ⟨w.heap.size + 2, 2, none⟩ (.int .u8 0)).heap.size = w.heap.size + 3 := size_set.trans hz
  generalize W.setCell ⟨w.heap.size + 2, 2, none⟩ (.int .u8 0) = W1 at *
  clear B T hz q r x1
  have B := B'
  have T := T'
  have hz := hz'
  clear B' T' hz'
  have x1 : W1.cell? ⟨w.heap.size + 1, 5, none⟩ = some (.int .i64 2) := by rw [T.cell (by simp only; omega)]; simp [World.cell?, hb1]
  have q := B.at (j := 3) (b := 0) rfl
  have r := B.free 3
  go_upto_region 8 with fail
  have B' : Buf (W1.setCell ⟨w.heap.size + 2, 3, none⟩ (.int .u8 2)) (w.heap.size + 2) [0, 0, 0, 2, 0, 0, 0, 0, 0, 0, 0, 0, 0, 0, 0] := B.set (j := 3) (by decide) 2
  have T' : Below (w.heap.size + 2) W (W1.setCell ⟨w.heap.size + 2, 3, none⟩ (.int .u8 2)) := T.trans (below_set (Nat.le_refl _))
  have hz' : (W1.setCell ⟨w.heap.size + 2, 3, none⟩ (.int .u8 2)).heap.size = w.heap.size + 3 := size_set.trans hz
  generalize W1.setCell ⟨w.heap.size + 2, 3, none⟩ (.int .u8 2) = W2 at *
  clear B T hz q r x1
  have B := B'
  have T := T'
  have hz := hz'
  clear B' T' hz'
  have q := B.at (j := 4) (b := 0) rfl
  have r := B.free 4
  go_upto_region 9 with fail
  have B' : Buf (W2.setCell ⟨w.heap.size + 2, 4, none⟩ (.int .u8 111)) (w.heap.size + 2) [0, 0, 0, 2, 111, 0, 0, 0, 0, 0, 0, 0, 0, 0, 0] := B.set (j := 4) (by decide) 111
  have T' : Below (w.heap.size + 2) W (W2.setCell ⟨w.heap.size + 2, 4, none⟩ (.int .u8 111)) := T.trans (below_set (Nat.le_refl _))
  have hz' : (W2.setCell ⟨w.heap.size + 2, 4, none⟩ (.int .u8 111)).heap.size = w.heap.size + 3 := size_set.trans hz
  generalize W2.setCell ⟨w.heap.size + 2, 4, none⟩ (.int .u8 111) = W3 at *
  clear B T hz q r
  have B := B'
  have T := T'
  have hz := hz'
  clear B' T' hz'
  have q := B.at (j := 5) (b := 0) rfl
  have r := B.free 5
  go_upto_region 10 with fail
  have B' : Buf (W3.setCell ⟨w.heap.size + 2, 5, none⟩ (.int .u8 56)) (w.heap.size + 2) [0, 0, 0, 2, 111, 56, 0, 0, 0, 0, 0, 0, 0, 0, 0] := B.set (j := 5) (by decide) 56
  have T' : Below (w.heap.size + 2) W (W3.setCell ⟨w.heap.size + 2, 5, none⟩ (.int .u8 56)) := T.trans (below_set (Nat.le_refl _))
  have hz' : (W3.setCell ⟨w.heap.size + 2, 5, none⟩ (.int .u8 56)).heap.size = w.heap.size + 3 := size_set.trans hz
  generalize W3.setCell ⟨w.heap.size + 2, 5, none⟩ (.int .u8 56) = W4 at *
  clear B T hz q r
  have B := B'
  have T := T'
  have hz := hz'
  clear B' T' hz'
  have q := B.at (j := 6) (b := 0) rfl
  have r := B.free 6
  go_upto_region 11 with fail
  have B' : Buf (W4.setCell ⟨w.heap.size + 2, 6, none⟩ (.int .u8 4)) (w.heap.size + 2) [0, 0, 0, 2, 111, 56, 4, 0, 0, 0, 0, 0, 0, 0, 0] := B.set (j := 6) (by decide) 4
  have T' : Below (w.heap.size + 2) W (W4.setCell ⟨w.heap.size + 2, 6, none⟩ (.int .u8 4)) := T.trans (below_set (Nat.le_refl _))
  have hz' : (W4.setCell ⟨w.heap.size + 2, 6, none⟩ (.int .u8 4)).heap.size = w.heap.size + 3 := size_set.trans hz
  generalize W4.setCell ⟨w.heap.size + 2, 6, none⟩ (.int .u8 4) = W5 at *
  clear B T hz q r
  have B := B'
  have T := T'
  have hz := hz'
  clear B' T' hz'
  have q := B.at (j := 9) (b := 0) rfl
  have r := B.free 9
  go_upto_region 12 with fail
  have B' : Buf (W5.setCell ⟨w.heap.size + 2, 9, none⟩ (.int .u8 240)) (w.heap.size + 2) [0, 0, 0, 2, 111, 56, 4, 0, 0, 240, 0, 0, 0, 0, 0] := B.set (j := 9) (by decide) 240
  have T' : Below (w.heap.size + 2) W (W5.setCell ⟨w.heap.size + 2, 9, none⟩ (.int .u8 240)) := T.trans (below_set (Nat.le_refl _))
  have hz' : (W5.setCell ⟨w.heap.size + 2, 9, none⟩ (.int .u8 240)).heap.size = w.heap.size + 3 := size_set.trans hz
  generalize W5.setCell ⟨w.heap.size + 2, 9, none⟩ (.int .u8 240) = W6 at *
  clear B T hz q r
  have B := B'
  have T := T'
  have hz := hz'
  clear B' T' hz'
  have q := B.at (j := 10) (b := 0) rfl
  have r := B.free 10
  go_upto_region 13 with fail
  have B' : Buf (W6.setCell ⟨w.heap.size + 2, 10, none⟩ (.int .u8 255)) (w.heap.size + 2) [0, 0, 0, 2, 111, 56, 4, 0, 0, 240, 255, 0, 0, 0, 0] := B.set (j := 10) (by decide) 255
  have T' : Below (w.heap.size + 2) W (W6.setCell ⟨w.heap.size + 2, 10, none⟩ (.int .u8 255)) := T.trans (below_set (Nat.le_refl _))
  have hz' : (W6.setCell ⟨w.heap.size + 2, 10, none⟩ (.int .u8 255)).heap.size = w.heap.size + 3 := size_set.trans hz
  generalize W6.setCell ⟨w.heap.size + 2, 10, none⟩ (.int .u8 255) = W7 at *
  clear B T hz q r
  have B := B'
  have T := T'
  have hz := hz'
  clear B' T' hz'
  have q := B.at (j := 11) (b := 0) rfl
  have r := B.free 11
  go_upto_region 14 with fail
  have B' : Buf (W7.setCell ⟨w.heap.size + 2, 11, none⟩ (.int .u8 5)) (w.heap.size + 2) [0, 0, 0, 2, 111, 56, 4, 0, 0, 240, 255, 5, 0, 0, 0] := B.set (j := 11) (by decide) 5
  have T' : Below (w.heap.size + 2) W (W7.setCell ⟨w.heap.size + 2, 11, none⟩ (.int .u8 5)) := T.trans (below_set (Nat.le_refl _))
  have hz' : (W7.setCell ⟨w.heap.size + 2, 11, none⟩ (.int .u8 5)).heap.size = w.heap.size + 3 := size_set.trans hz
  generalize W7.setCell ⟨w.heap.size + 2, 11, none⟩ (.int .u8 5) = W8 at *
  clear B T hz q r
  have B := B'
  have T := T'
  have hz := hz'
  clear B' T' hz'
  have q := B.at (j := 12) (b := 0) rfl
  have r := B.free 12
  go_upto_region 15 with fail
  have B' : Buf (W8.setCell ⟨w.heap.size + 2, 12, none⟩ (.int .u8 2)) (w.heap.size + 2) [0, 0, 0, 2, 111, 56, 4, 0, 0, 240, 255, 5, 2, 0, 0] := B.set (j := 12) (by decide) 2
  have T' : Below (w.heap.size + 2) W (W8.setCell ⟨w.heap.size + 2, 12, none⟩ (.int .u8 2)) := T.trans (below_set (Nat.le_refl _))
  have hz' : (W8.setCell ⟨w.heap.size + 2, 12, none⟩ (.int .u8 2)).heap.size = w.heap.size + 3 := size_set.trans hz
  generalize W8.setCell ⟨w.heap.size + 2, 12, none⟩ (.int .u8 2) = W9 at *
  clear B T hz q r
  have B := B'
  have T := T'
  have hz := hz'
  clear B' T' hz'
  go_wp2_with fail
  go_ret
  exact ⟨w.heap.size + 2, rfl, B, by omega, by omega, hbel.trans (T.mono (by omega))⟩

end Go.Proofs.YbulkdcggFmt
