/-
  THE WALK of selectResponse.
-/
import Derived.Test.YbulkdcggFmtTree
namespace Go.Proofs.YbulkdcggFmt
open Go.RowKit

set_option maxHeartbeats 6400000 in
set_option maxRecDepth 100000 in
theorem resp2 {s : Shape} {N : Nat} {w : World} (t : Tree s N w) (hN : N ≤ w.heap.size) : Calls Ybaf.prog 16 #[.pointer (some ⟨s.b2, 0, none⟩)] w fun e w' => ∃ g, e = .returned (.slice (some ⟨g, 0, none⟩) 15 15) ∧ Buf w' g (respOf 2) ∧ g < w'.heap.size ∧ w.heap.size ≤ g ∧ Below w.heap.size w w' := by
  have hmk : ∀ W : World, (Instr.makeSlice 25 (.int .i64 15) (.int .i64 15)).run Ybaf.prog W = .ok (.slice (some ⟨W.heap.size, 0, none⟩) 15 15) (W.alloc (.cells (madeCells #[.int .u8 0] 15) 5)) := fun W => run_make_row' (P := Ybaf.prog) 25 5 (.int .u8 0) 1 Ybaf.underlying25 info5 rfl .i64 .i64 15 (by omega) (by omega) W
  have f0 := t.get 14 (g := s.b2) (o := 0) (v := .int .u16 28476) rfl
  have f1 := t.get 15 (g := s.b2) (o := 1) (v := .int .u8 4) rfl
  have f1c := f1.2
  have f0c := f0.2
  have fl : s.b2 < w.heap.size := Nat.lt_of_lt_of_le f0.1 hN
  have f4 := (t.get 18 (g := s.b2) (o := 4) (v := .int .u8 1) rfl).2
  have f5 := (t.get 19 (g := s.b2) (o := 5) (v := .slice s.a2 176 s.e2) rfl).2
  have f6 := (t.get 20 (g := s.b2) (o := 6) (v := .int .i64 176) rfl).2
  clear t f0 f1
  generalize s.b2 = b at *
  generalize s.a2 = ak at *
  generalize s.e2 = ek at *
  go_enter Ybaf.func16, Ybaf.ntmps16
  go_upto_region 3 with fail
  obtain ⟨hsz, hbel, hb2⟩ := alloc1 w (Obj.cells (madeCells #[.int .u8 0] 15) 5)
  generalize w.alloc (Obj.cells (madeCells #[.int .u8 0] 15) 5) = W at *
  have T : Below w.heap.size w W := hbel
  have hz : W.heap.size = w.heap.size + 1 := hsz
  have B : Buf W w.heap.size [0, 0, 0, 0, 0, 0, 0, 0, 0, 0, 0, 0, 0, 0, 0] := Buf.zeros hb2
  clear hmk hbel hb2 hsz
  have yf5 : W.cell? ⟨b, 5, none⟩ = some (.slice ak 176 ek) := by rw [T.cell (by simpa using fl)]; exact f5
  have q2 := B.at (j := 2) (b := 0) rfl
  have r2 := B.free 2
  have q3 := B.at (j := 3) (b := 0) rfl
  have r3 := B.free 3
  go_region
  go_upto_region 4 with fail
  have B' : Buf ((W.setCell ⟨w.heap.size, 2, none⟩ (.int .u8 0)).setCell ⟨w.heap.size, 3, none⟩ (.int .u8 176)).drew w.heap.size [0, 0, 0, 176, 0, 0, 0, 0, 0, 0, 0, 0, 0, 0, 0] := ((B.set (j := 2) (by decide) 0).set (j := 3) (by decide) 176).drew
  have T' : Below w.heap.size w ((W.setCell ⟨w.heap.size, 2, none⟩ (.int .u8 0)).setCell ⟨w.heap.size, 3, none⟩ (.int .u8 176)).drew := ((T.trans (below_set (Nat.le_refl _))).trans (below_set (Nat.le_refl _))).drew
  have hz' : ((W.setCell ⟨w.heap.size, 2, none⟩ (.int .u8 0)).setCell ⟨w.heap.size, 3, none⟩ (.int .u8 176)).drew.heap.size = w.heap.size + 1 := (size_set.trans (size_set.trans hz))
  generalize ((W.setCell ⟨w.heap.size, 2, none⟩ (.int .u8 0)).setCell ⟨w.heap.size, 3, none⟩ (.int .u8 176)).drew = W1 at *
  clear B T hz q2 r2 q3 r3 yf5
  have B := B'
  have T := T'
  have hz := hz'
  clear B' T' hz'
  have yf0c : W1.cell? ⟨b, 0, none⟩ = some (.int .u16 28476) := by rw [T.cell (by simpa using fl)]; exact f0c
  have q4 := B.at (j := 4) (b := 0) rfl
  have r4 := B.free 4
  have q5 := B.at (j := 5) (b := 0) rfl
  have r5 := B.free 5
  go_region
  go_upto_region 5 with fail
  have B' : Buf ((W1.setCell ⟨w.heap.size, 4, none⟩ (.int .u8 111)).setCell ⟨w.heap.size, 5, none⟩ (.int .u8 60)).drew w.heap.size [0, 0, 0, 176, 111, 60, 0, 0, 0, 0, 0, 0, 0, 0, 0] := ((B.set (j := 4) (by decide) 111).set (j := 5) (by decide) 60).drew
  have T' : Below w.heap.size w ((W1.setCell ⟨w.heap.size, 4, none⟩ (.int .u8 111)).setCell ⟨w.heap.size, 5, none⟩ (.int .u8 60)).drew := ((T.trans (below_set (Nat.le_refl _))).trans (below_set (Nat.le_refl _))).drew
  have hz' : ((W1.setCell ⟨w.heap.size, 4, none⟩ (.int .u8 111)).setCell ⟨w.heap.size, 5, none⟩ (.int .u8 60)).drew.heap.size = w.heap.size + 1 := (size_set.trans (size_set.trans hz))
  generalize ((W1.setCell ⟨w.heap.size, 4, none⟩ (.int .u8 111)).setCell ⟨w.heap.size, 5, none⟩ (.int .u8 60)).drew = W2 at *
  clear B T hz q4 r4 q5 r5 yf0c
  have B := B'
  have T := T'
  have hz := hz'
  clear B' T' hz'
  have q6 := B.at (j := 6) (b := 0) rfl
  have r6 := B.free 6
  go_upto_region 6 with fail
  have B' : Buf (W2.setCell ⟨w.heap.size, 6, none⟩ (.int .u8 4)) w.heap.size [0, 0, 0, 176, 111, 60, 4, 0, 0, 0, 0, 0, 0, 0, 0] := (B.set (j := 6) (by decide) 4)
  have T' : Below w.heap.size w (W2.setCell ⟨w.heap.size, 6, none⟩ (.int .u8 4)) := (T.trans (below_set (Nat.le_refl _)))
  have hz' : (W2.setCell ⟨w.heap.size, 6, none⟩ (.int .u8 4)).heap.size = w.heap.size + 1 := (size_set.trans hz)
  generalize (W2.setCell ⟨w.heap.size, 6, none⟩ (.int .u8 4)) = W3 at *
  clear B T hz q6 r6 
  have B := B'
  have T := T'
  have hz := hz'
  clear B' T' hz'
  have q8 := B.at (j := 8) (b := 0) rfl
  have r8 := B.free 8
  have q9 := B.at (j := 9) (b := 0) rfl
  have r9 := B.free 9
  have q10 := B.at (j := 10) (b := 0) rfl
  have r10 := B.free 10
  go_upto_region 7 with fail
  have B' : Buf (((W3.setCell ⟨w.heap.size, 8, none⟩ (.int .u8 0)).setCell ⟨w.heap.size, 9, none⟩ (.int .u8 240)).setCell ⟨w.heap.size, 10, none⟩ (.int .u8 255)) w.heap.size [0, 0, 0, 176, 111, 60, 4, 0, 0, 240, 255, 0, 0, 0, 0] := (((B.set (j := 8) (by decide) 0).set (j := 9) (by decide) 240).set (j := 10) (by decide) 255)
  have T' : Below w.heap.size w (((W3.setCell ⟨w.heap.size, 8, none⟩ (.int .u8 0)).setCell ⟨w.heap.size, 9, none⟩ (.int .u8 240)).setCell ⟨w.heap.size, 10, none⟩ (.int .u8 255)) := (((T.trans (below_set (Nat.le_refl _))).trans (below_set (Nat.le_refl _))).trans (below_set (Nat.le_refl _)))
  have hz' : (((W3.setCell ⟨w.heap.size, 8, none⟩ (.int .u8 0)).setCell ⟨w.heap.size, 9, none⟩ (.int .u8 240)).setCell ⟨w.heap.size, 10, none⟩ (.int .u8 255)).heap.size = w.heap.size + 1 := (size_set.trans (size_set.trans (size_set.trans hz)))
  generalize (((W3.setCell ⟨w.heap.size, 8, none⟩ (.int .u8 0)).setCell ⟨w.heap.size, 9, none⟩ (.int .u8 240)).setCell ⟨w.heap.size, 10, none⟩ (.int .u8 255)) = W4 at *
  clear B T hz q8 r8 q9 r9 q10 r10 
  have B := B'
  have T := T'
  have hz := hz'
  clear B' T' hz'
  have q11 := B.at (j := 11) (b := 0) rfl
  have r11 := B.free 11
  go_upto_region 8 with fail
  have B' : Buf (W4.setCell ⟨w.heap.size, 11, none⟩ (.int .u8 5)) w.heap.size [0, 0, 0, 176, 111, 60, 4, 0, 0, 240, 255, 5, 0, 0, 0] := (B.set (j := 11) (by decide) 5)
  have T' : Below w.heap.size w (W4.setCell ⟨w.heap.size, 11, none⟩ (.int .u8 5)) := (T.trans (below_set (Nat.le_refl _)))
  have hz' : (W4.setCell ⟨w.heap.size, 11, none⟩ (.int .u8 5)).heap.size = w.heap.size + 1 := (size_set.trans hz)
  generalize (W4.setCell ⟨w.heap.size, 11, none⟩ (.int .u8 5)) = W5 at *
  clear B T hz q11 r11 
  have B := B'
  have T := T'
  have hz := hz'
  clear B' T' hz'
  have q12 := B.at (j := 12) (b := 0) rfl
  have r12 := B.free 12
  go_upto_region 9 with fail
  have B' : Buf (W5.setCell ⟨w.heap.size, 12, none⟩ (.int .u8 2)) w.heap.size [0, 0, 0, 176, 111, 60, 4, 0, 0, 240, 255, 5, 2, 0, 0] := (B.set (j := 12) (by decide) 2)
  have T' : Below w.heap.size w (W5.setCell ⟨w.heap.size, 12, none⟩ (.int .u8 2)) := (T.trans (below_set (Nat.le_refl _)))
  have hz' : (W5.setCell ⟨w.heap.size, 12, none⟩ (.int .u8 2)).heap.size = w.heap.size + 1 := (size_set.trans hz)
  generalize (W5.setCell ⟨w.heap.size, 12, none⟩ (.int .u8 2)) = W6 at *
  clear B T hz q12 r12 
  have B := B'
  have T := T'
  have hz := hz'
  clear B' T' hz'
  have yf4 : W6.cell? ⟨b, 4, none⟩ = some (.int .u8 1) := by rw [T.cell (by simpa using fl)]; exact f4
  have q13 := B.at (j := 13) (b := 0) rfl
  have r13 := B.free 13
  go_upto_region 10 with fail
  have B' : Buf (W6.setCell ⟨w.heap.size, 13, none⟩ (.int .u8 1)) w.heap.size [0, 0, 0, 176, 111, 60, 4, 0, 0, 240, 255, 5, 2, 1, 0] := (B.set (j := 13) (by decide) 1)
  have T' : Below w.heap.size w (W6.setCell ⟨w.heap.size, 13, none⟩ (.int .u8 1)) := (T.trans (below_set (Nat.le_refl _)))
  have hz' : (W6.setCell ⟨w.heap.size, 13, none⟩ (.int .u8 1)).heap.size = w.heap.size + 1 := (size_set.trans hz)
  generalize (W6.setCell ⟨w.heap.size, 13, none⟩ (.int .u8 1)) = W7 at *
  clear B T hz q13 r13 yf4
  have B := B'
  have T := T'
  have hz := hz'
  clear B' T' hz'
  have yf4 : W7.cell? ⟨b, 4, none⟩ = some (.int .u8 1) := by rw [T.cell (by simpa using fl)]; exact f4
  have yf6 : W7.cell? ⟨b, 6, none⟩ = some (.int .i64 176) := by rw [T.cell (by simpa using fl)]; exact f6
  have q14 := B.at (j := 14) (b := 0) rfl
  have r14 := B.free 14
  go_upto_region 12 with fail
  have B' : Buf (W7.setCell ⟨w.heap.size, 14, none⟩ (.int .u8 176)) w.heap.size [0, 0, 0, 176, 111, 60, 4, 0, 0, 240, 255, 5, 2, 1, 176] := (B.set (j := 14) (by decide) 176)
  have T' : Below w.heap.size w (W7.setCell ⟨w.heap.size, 14, none⟩ (.int .u8 176)) := (T.trans (below_set (Nat.le_refl _)))
  have hz' : (W7.setCell ⟨w.heap.size, 14, none⟩ (.int .u8 176)).heap.size = w.heap.size + 1 := (size_set.trans hz)
  generalize (W7.setCell ⟨w.heap.size, 14, none⟩ (.int .u8 176)) = W8 at *
  clear B T hz q14 r14 yf4 yf6
  have B := B'
  have T := T'
  have hz := hz'
  clear B' T' hz'
  have yf4 : W8.cell? ⟨b, 4, none⟩ = some (.int .u8 1) := by rw [T.cell (by simpa using fl)]; exact f4
  go_wp2_with fail
  go_ret
  exact ⟨w.heap.size, rfl, B, by omega, Nat.le_refl _, T⟩

set_option maxHeartbeats 6400000 in
set_option maxRecDepth 100000 in
theorem resp3 {s : Shape} {N : Nat} {w : World} (t : Tree s N w) (hN : N ≤ w.heap.size) : Calls Ybaf.prog 16 #[.pointer (some ⟨s.b3, 0, none⟩)] w fun e w' => ∃ g, e = .returned (.slice (some ⟨g, 0, none⟩) 15 15) ∧ Buf w' g (respOf 3) ∧ g < w'.heap.size ∧ w.heap.size ≤ g ∧ Below w.heap.size w w' := by
  have hmk : ∀ W : World, (Instr.makeSlice 25 (.int .i64 15) (.int .i64 15)).run Ybaf.prog W = .ok (.slice (some ⟨W.heap.size, 0, none⟩) 15 15) (W.alloc (.cells (madeCells #[.int .u8 0] 15) 5)) := fun W => run_make_row' (P := Ybaf.prog) 25 5 (.int .u8 0) 1 Ybaf.underlying25 info5 rfl .i64 .i64 15 (by omega) (by omega) W
  have f0 := t.get 21 (g := s.b3) (o := 0) (v := .int .u16 28483) rfl
  have f1 := t.get 22 (g := s.b3) (o := 1) (v := .int .u8 4) rfl
  have f1c := f1.2
  have f0c := f0.2
  have fl : s.b3 < w.heap.size := Nat.lt_of_lt_of_le f0.1 hN
  have f4 := (t.get 25 (g := s.b3) (o := 4) (v := .int .u8 0) rfl).2
  have f5 := (t.get 26 (g := s.b3) (o := 5) (v := .slice s.a3 2 s.e3) rfl).2
  have f6 := (t.get 27 (g := s.b3) (o := 6) (v := .int .i64 0) rfl).2
  clear t f0 f1
  generalize s.b3 = b at *
  generalize s.a3 = ak at *
  generalize s.e3 = ek at *
  go_enter Ybaf.func16, Ybaf.ntmps16
  go_upto_region 3 with fail
  obtain ⟨hsz, hbel, hb2⟩ := alloc1 w (Obj.cells (madeCells #[.int .u8 0] 15) 5)
  generalize w.alloc (Obj.cells (madeCells #[.int .u8 0] 15) 5) = W at *
  have T : Below w.heap.size w W := hbel
  have hz : W.heap.size = w.heap.size + 1 := hsz
  have B : Buf W w.heap.size [0, 0, 0, 0, 0, 0, 0, 0, 0, 0, 0, 0, 0, 0, 0] := Buf.zeros hb2
  clear hmk hbel hb2 hsz
  have yf5 : W.cell? ⟨b, 5, none⟩ = some (.slice ak 2 ek) := by rw [T.cell (by simpa using fl)]; exact f5
  have q2 := B.at (j := 2) (b := 0) rfl
  have r2 := B.free 2
  have q3 := B.at (j := 3) (b := 0) rfl
  have r3 := B.free 3
  go_region
  go_upto_region 4 with fail
  have B' : Buf ((W.setCell ⟨w.heap.size, 2, none⟩ (.int .u8 0)).setCell ⟨w.heap.size, 3, none⟩ (.int .u8 2)).drew w.heap.size [0, 0, 0, 2, 0, 0, 0, 0, 0, 0, 0, 0, 0, 0, 0] := ((B.set (j := 2) (by decide) 0).set (j := 3) (by decide) 2).drew
  have T' : Below w.heap.size w ((W.setCell ⟨w.heap.size, 2, none⟩ (.int .u8 0)).setCell ⟨w.heap.size, 3, none⟩ (.int .u8 2)).drew := ((T.trans (below_set (Nat.le_refl _))).trans (below_set (Nat.le_refl _))).drew
  have hz' : ((W.setCell ⟨w.heap.size, 2, none⟩ (.int .u8 0)).setCell ⟨w.heap.size, 3, none⟩ (.int .u8 2)).drew.heap.size = w.heap.size + 1 := (size_set.trans (size_set.trans hz))
  generalize ((W.setCell ⟨w.heap.size, 2, none⟩ (.int .u8 0)).setCell ⟨w.heap.size, 3, none⟩ (.int .u8 2)).drew = W1 at *
  clear B T hz q2 r2 q3 r3 yf5
  have B := B'
  have T := T'
  have hz := hz'
  clear B' T' hz'
  have yf0c : W1.cell? ⟨b, 0, none⟩ = some (.int .u16 28483) := by rw [T.cell (by simpa using fl)]; exact f0c
  have q4 := B.at (j := 4) (b := 0) rfl
  have r4 := B.free 4
  have q5 := B.at (j := 5) (b := 0) rfl
  have r5 := B.free 5
  go_region
  go_upto_region 5 with fail
  have B' : Buf ((W1.setCell ⟨w.heap.size, 4, none⟩ (.int .u8 111)).setCell ⟨w.heap.size, 5, none⟩ (.int .u8 67)).drew w.heap.size [0, 0, 0, 2, 111, 67, 0, 0, 0, 0, 0, 0, 0, 0, 0] := ((B.set (j := 4) (by decide) 111).set (j := 5) (by decide) 67).drew
  have T' : Below w.heap.size w ((W1.setCell ⟨w.heap.size, 4, none⟩ (.int .u8 111)).setCell ⟨w.heap.size, 5, none⟩ (.int .u8 67)).drew := ((T.trans (below_set (Nat.le_refl _))).trans (below_set (Nat.le_refl _))).drew
  have hz' : ((W1.setCell ⟨w.heap.size, 4, none⟩ (.int .u8 111)).setCell ⟨w.heap.size, 5, none⟩ (.int .u8 67)).drew.heap.size = w.heap.size + 1 := (size_set.trans (size_set.trans hz))
  generalize ((W1.setCell ⟨w.heap.size, 4, none⟩ (.int .u8 111)).setCell ⟨w.heap.size, 5, none⟩ (.int .u8 67)).drew = W2 at *
  clear B T hz q4 r4 q5 r5 yf0c
  have B := B'
  have T := T'
  have hz := hz'
  clear B' T' hz'
  have q6 := B.at (j := 6) (b := 0) rfl
  have r6 := B.free 6
  go_upto_region 6 with fail
  have B' : Buf (W2.setCell ⟨w.heap.size, 6, none⟩ (.int .u8 4)) w.heap.size [0, 0, 0, 2, 111, 67, 4, 0, 0, 0, 0, 0, 0, 0, 0] := (B.set (j := 6) (by decide) 4)
  have T' : Below w.heap.size w (W2.setCell ⟨w.heap.size, 6, none⟩ (.int .u8 4)) := (T.trans (below_set (Nat.le_refl _)))
  have hz' : (W2.setCell ⟨w.heap.size, 6, none⟩ (.int .u8 4)).heap.size = w.heap.size + 1 := (size_set.trans hz)
  generalize (W2.setCell ⟨w.heap.size, 6, none⟩ (.int .u8 4)) = W3 at *
  clear B T hz q6 r6 
  have B := B'
  have T := T'
  have hz := hz'
  clear B' T' hz'
  have q8 := B.at (j := 8) (b := 0) rfl
  have r8 := B.free 8
  have q9 := B.at (j := 9) (b := 0) rfl
  have r9 := B.free 9
  have q10 := B.at (j := 10) (b := 0) rfl
  have r10 := B.free 10
  go_upto_region 7 with fail
  have B' : Buf (((W3.setCell ⟨w.heap.size, 8, none⟩ (.int .u8 0)).setCell ⟨w.heap.size, 9, none⟩ (.int .u8 240)).setCell ⟨w.heap.size, 10, none⟩ (.int .u8 255)) w.heap.size [0, 0, 0, 2, 111, 67, 4, 0, 0, 240, 255, 0, 0, 0, 0] := (((B.set (j := 8) (by decide) 0).set (j := 9) (by decide) 240).set (j := 10) (by decide) 255)
  have T' : Below w.heap.size w (((W3.setCell ⟨w.heap.size, 8, none⟩ (.int .u8 0)).setCell ⟨w.heap.size, 9, none⟩ (.int .u8 240)).setCell ⟨w.heap.size, 10, none⟩ (.int .u8 255)) := (((T.trans (below_set (Nat.le_refl _))).trans (below_set (Nat.le_refl _))).trans (below_set (Nat.le_refl _)))
  have hz' : (((W3.setCell ⟨w.heap.size, 8, none⟩ (.int .u8 0)).setCell ⟨w.heap.size, 9, none⟩ (.int .u8 240)).setCell ⟨w.heap.size, 10, none⟩ (.int .u8 255)).heap.size = w.heap.size + 1 := (size_set.trans (size_set.trans (size_set.trans hz)))
  generalize (((W3.setCell ⟨w.heap.size, 8, none⟩ (.int .u8 0)).setCell ⟨w.heap.size, 9, none⟩ (.int .u8 240)).setCell ⟨w.heap.size, 10, none⟩ (.int .u8 255)) = W4 at *
  clear B T hz q8 r8 q9 r9 q10 r10 
  have B := B'
  have T := T'
  have hz := hz'
  clear B' T' hz'
  have q11 := B.at (j := 11) (b := 0) rfl
  have r11 := B.free 11
  go_upto_region 8 with fail
  have B' : Buf (W4.setCell ⟨w.heap.size, 11, none⟩ (.int .u8 5)) w.heap.size [0, 0, 0, 2, 111, 67, 4, 0, 0, 240, 255, 5, 0, 0, 0] := (B.set (j := 11) (by decide) 5)
  have T' : Below w.heap.size w (W4.setCell ⟨w.heap.size, 11, none⟩ (.int .u8 5)) := (T.trans (below_set (Nat.le_refl _)))
  have hz' : (W4.setCell ⟨w.heap.size, 11, none⟩ (.int .u8 5)).heap.size = w.heap.size + 1 := (size_set.trans hz)
  generalize (W4.setCell ⟨w.heap.size, 11, none⟩ (.int .u8 5)) = W5 at *
  clear B T hz q11 r11 
  have B := B'
  have T := T'
  have hz := hz'
  clear B' T' hz'
  have q12 := B.at (j := 12) (b := 0) rfl
  have r12 := B.free 12
  go_upto_region 9 with fail
  have B' : Buf (W5.setCell ⟨w.heap.size, 12, none⟩ (.int .u8 2)) w.heap.size [0, 0, 0, 2, 111, 67, 4, 0, 0, 240, 255, 5, 2, 0, 0] := (B.set (j := 12) (by decide) 2)
  have T' : Below w.heap.size w (W5.setCell ⟨w.heap.size, 12, none⟩ (.int .u8 2)) := (T.trans (below_set (Nat.le_refl _)))
  have hz' : (W5.setCell ⟨w.heap.size, 12, none⟩ (.int .u8 2)).heap.size = w.heap.size + 1 := (size_set.trans hz)
  generalize (W5.setCell ⟨w.heap.size, 12, none⟩ (.int .u8 2)) = W6 at *
  clear B T hz q12 r12 
  have B := B'
  have T := T'
  have hz := hz'
  clear B' T' hz'
  have yf4 : W6.cell? ⟨b, 4, none⟩ = some (.int .u8 0) := by rw [T.cell (by simpa using fl)]; exact f4
  have q13 := B.at (j := 13) (b := 0) rfl
  have r13 := B.free 13
  go_upto_region 10 with fail
  have B' : Buf (W6.setCell ⟨w.heap.size, 13, none⟩ (.int .u8 0)) w.heap.size [0, 0, 0, 2, 111, 67, 4, 0, 0, 240, 255, 5, 2, 0, 0] := (B.set (j := 13) (by decide) 0)
  have T' : Below w.heap.size w (W6.setCell ⟨w.heap.size, 13, none⟩ (.int .u8 0)) := (T.trans (below_set (Nat.le_refl _)))
  have hz' : (W6.setCell ⟨w.heap.size, 13, none⟩ (.int .u8 0)).heap.size = w.heap.size + 1 := (size_set.trans hz)
  generalize (W6.setCell ⟨w.heap.size, 13, none⟩ (.int .u8 0)) = W7 at *
  clear B T hz q13 r13 yf4
  have B := B'
  have T := T'
  have hz := hz'
  clear B' T' hz'
  have yf4 : W7.cell? ⟨b, 4, none⟩ = some (.int .u8 0) := by rw [T.cell (by simpa using fl)]; exact f4
  go_wp2_with fail
  go_ret
  exact ⟨w.heap.size, rfl, B, by omega, Nat.le_refl _, T⟩

set_option maxHeartbeats 6400000 in
set_option maxRecDepth 100000 in
theorem resp5 {s : Shape} {N : Nat} {w : World} (t : Tree s N w) (hN : N ≤ w.heap.size) : Calls Ybaf.prog 16 #[.pointer (some ⟨s.b5, 0, none⟩)] w fun e w' => ∃ g, e = .returned (.slice (some ⟨g, 0, none⟩) 15 15) ∧ Buf w' g (respOf 5) ∧ g < w'.heap.size ∧ w.heap.size ≤ g ∧ Below w.heap.size w w' := by
  have hmk : ∀ W : World, (Instr.makeSlice 25 (.int .i64 15) (.int .i64 15)).run Ybaf.prog W = .ok (.slice (some ⟨W.heap.size, 0, none⟩) 15 15) (W.alloc (.cells (madeCells #[.int .u8 0] 15) 5)) := fun W => run_make_row' (P := Ybaf.prog) 25 5 (.int .u8 0) 1 Ybaf.underlying25 info5 rfl .i64 .i64 15 (by omega) (by omega) W
  have f0 := t.get 35 (g := s.b5) (o := 0) (v := .int .u16 28472) rfl
  have f1 := t.get 36 (g := s.b5) (o := 1) (v := .int .u8 4) rfl
  have f1c := f1.2
  have f0c := f0.2
  have fl : s.b5 < w.heap.size := Nat.lt_of_lt_of_le f0.1 hN
  have f4 := (t.get 39 (g := s.b5) (o := 4) (v := .int .u8 0) rfl).2
  have f5 := (t.get 40 (g := s.b5) (o := 5) (v := .slice s.a5 2 s.e5) rfl).2
  have f6 := (t.get 41 (g := s.b5) (o := 6) (v := .int .i64 0) rfl).2
  clear t f0 f1
  generalize s.b5 = b at *
  generalize s.a5 = ak at *
  generalize s.e5 = ek at *
  go_enter Ybaf.func16, Ybaf.ntmps16
  go_upto_region 3 with fail
  obtain ⟨hsz, hbel, hb2⟩ := alloc1 w (Obj.cells (madeCells #[.int .u8 0] 15) 5)
  generalize w.alloc (Obj.cells (madeCells #[.int .u8 0] 15) 5) = W at *
  have T : Below w.heap.size w W := hbel
  have hz : W.heap.size = w.heap.size + 1 := hsz
  have B : Buf W w.heap.size [0, 0, 0, 0, 0, 0, 0, 0, 0, 0, 0, 0, 0, 0, 0] := Buf.zeros hb2
  clear hmk hbel hb2 hsz
  have yf5 : W.cell? ⟨b, 5, none⟩ = some (.slice ak 2 ek) := by rw [T.cell (by simpa using fl)]; exact f5
  have q2 := B.at (j := 2) (b := 0) rfl
  have r2 := B.free 2
  have q3 := B.at (j := 3) (b := 0) rfl
  have r3 := B.free 3
  go_region
  go_upto_region 4 with fail
  have B' : Buf ((W.setCell ⟨w.heap.size, 2, none⟩ (.int .u8 0)).setCell ⟨w.heap.size, 3, none⟩ (.int .u8 2)).drew w.heap.size [0, 0, 0, 2, 0, 0, 0, 0, 0, 0, 0, 0, 0, 0, 0] := ((B.set (j := 2) (by decide) 0).set (j := 3) (by decide) 2).drew
  have T' : Below w.heap.size w ((W.setCell ⟨w.heap.size, 2, none⟩ (.int .u8 0)).setCell ⟨w.heap.size, 3, none⟩ (.int .u8 2)).drew := ((T.trans (below_set (Nat.le_refl _))).trans (below_set (Nat.le_refl _))).drew
  have hz' : ((W.setCell ⟨w.heap.size, 2, none⟩ (.int .u8 0)).setCell ⟨w.heap.size, 3, none⟩ (.int .u8 2)).drew.heap.size = w.heap.size + 1 := (size_set.trans (size_set.trans hz))
  generalize ((W.setCell ⟨w.heap.size, 2, none⟩ (.int .u8 0)).setCell ⟨w.heap.size, 3, none⟩ (.int .u8 2)).drew = W1 at *
  clear B T hz q2 r2 q3 r3 yf5
  have B := B'
  have T := T'
  have hz := hz'
  clear B' T' hz'
  have yf0c : W1.cell? ⟨b, 0, none⟩ = some (.int .u16 28472) := by rw [T.cell (by simpa using fl)]; exact f0c
  have q4 := B.at (j := 4) (b := 0) rfl
  have r4 := B.free 4
  have q5 := B.at (j := 5) (b := 0) rfl
  have r5 := B.free 5
  go_region
  go_upto_region 5 with fail
  have B' : Buf ((W1.setCell ⟨w.heap.size, 4, none⟩ (.int .u8 111)).setCell ⟨w.heap.size, 5, none⟩ (.int .u8 56)).drew w.heap.size [0, 0, 0, 2, 111, 56, 0, 0, 0, 0, 0, 0, 0, 0, 0] := ((B.set (j := 4) (by decide) 111).set (j := 5) (by decide) 56).drew
  have T' : Below w.heap.size w ((W1.setCell ⟨w.heap.size, 4, none⟩ (.int .u8 111)).setCell ⟨w.heap.size, 5, none⟩ (.int .u8 56)).drew := ((T.trans (below_set (Nat.le_refl _))).trans (below_set (Nat.le_refl _))).drew
  have hz' : ((W1.setCell ⟨w.heap.size, 4, none⟩ (.int .u8 111)).setCell ⟨w.heap.size, 5, none⟩ (.int .u8 56)).drew.heap.size = w.heap.size + 1 := (size_set.trans (size_set.trans hz))
  generalize ((W1.setCell ⟨w.heap.size, 4, none⟩ (.int .u8 111)).setCell ⟨w.heap.size, 5, none⟩ (.int .u8 56)).drew = W2 at *
  clear B T hz q4 r4 q5 r5 yf0c
  have B := B'
  have T := T'
  have hz := hz'
  clear B' T' hz'
  have q6 := B.at (j := 6) (b := 0) rfl
  have r6 := B.free 6
  go_upto_region 6 with fail
  have B' : Buf (W2.setCell ⟨w.heap.size, 6, none⟩ (.int .u8 4)) w.heap.size [0, 0, 0, 2, 111, 56, 4, 0, 0, 0, 0, 0, 0, 0, 0] := (B.set (j := 6) (by decide) 4)
  have T' : Below w.heap.size w (W2.setCell ⟨w.heap.size, 6, none⟩ (.int .u8 4)) := (T.trans (below_set (Nat.le_refl _)))
  have hz' : (W2.setCell ⟨w.heap.size, 6, none⟩ (.int .u8 4)).heap.size = w.heap.size + 1 := (size_set.trans hz)
  generalize (W2.setCell ⟨w.heap.size, 6, none⟩ (.int .u8 4)) = W3 at *
  clear B T hz q6 r6 
  have B := B'
  have T := T'
  have hz := hz'
  clear B' T' hz'
  have q8 := B.at (j := 8) (b := 0) rfl
  have r8 := B.free 8
  have q9 := B.at (j := 9) (b := 0) rfl
  have r9 := B.free 9
  have q10 := B.at (j := 10) (b := 0) rfl
  have r10 := B.free 10
  go_upto_region 7 with fail
  have B' : Buf (((W3.setCell ⟨w.heap.size, 8, none⟩ (.int .u8 0)).setCell ⟨w.heap.size, 9, none⟩ (.int .u8 240)).setCell ⟨w.heap.size, 10, none⟩ (.int .u8 255)) w.heap.size [0, 0, 0, 2, 111, 56, 4, 0, 0, 240, 255, 0, 0, 0, 0] := (((B.set (j := 8) (by decide) 0).set (j := 9) (by decide) 240).set (j := 10) (by decide) 255)
  have T' : Below w.heap.size w (((W3.setCell ⟨w.heap.size, 8, none⟩ (.int .u8 0)).setCell ⟨w.heap.size, 9, none⟩ (.int .u8 240)).setCell ⟨w.heap.size, 10, none⟩ (.int .u8 255)) := (((T.trans (below_set (Nat.le_refl _))).trans (below_set (Nat.le_refl _))).trans (below_set (Nat.le_refl _)))
  have hz' : (((W3.setCell ⟨w.heap.size, 8, none⟩ (.int .u8 0)).setCell ⟨w.heap.size, 9, none⟩ (.int .u8 240)).setCell ⟨w.heap.size, 10, none⟩ (.int .u8 255)).heap.size = w.heap.size + 1 := (size_set.trans (size_set.trans (size_set.trans hz)))
  generalize (((W3.setCell ⟨w.heap.size, 8, none⟩ (.int .u8 0)).setCell ⟨w.heap.size, 9, none⟩ (.int .u8 240)).setCell ⟨w.heap.size, 10, none⟩ (.int .u8 255)) = W4 at *
  clear B T hz q8 r8 q9 r9 q10 r10 
  have B := B'
  have T := T'
  have hz := hz'
  clear B' T' hz'
  have q11 := B.at (j := 11) (b := 0) rfl
  have r11 := B.free 11
  go_upto_region 8 with fail
  have B' : Buf (W4.setCell ⟨w.heap.size, 11, none⟩ (.int .u8 5)) w.heap.size [0, 0, 0, 2, 111, 56, 4, 0, 0, 240, 255, 5, 0, 0, 0] := (B.set (j := 11) (by decide) 5)
  have T' : Below w.heap.size w (W4.setCell ⟨w.heap.size, 11, none⟩ (.int .u8 5)) := (T.trans (below_set (Nat.le_refl _)))
  have hz' : (W4.setCell ⟨w.heap.size, 11, none⟩ (.int .u8 5)).heap.size = w.heap.size + 1 := (size_set.trans hz)
  generalize (W4.setCell ⟨w.heap.size, 11, none⟩ (.int .u8 5)) = W5 at *
  clear B T hz q11 r11 
  have B := B'
  have T := T'
  have hz := hz'
  clear B' T' hz'
  have q12 := B.at (j := 12) (b := 0) rfl
  have r12 := B.free 12
  go_upto_region 9 with fail
  have B' : Buf (W5.setCell ⟨w.heap.size, 12, none⟩ (.int .u8 2)) w.heap.size [0, 0, 0, 2, 111, 56, 4, 0, 0, 240, 255, 5, 2, 0, 0] := (B.set (j := 12) (by decide) 2)
  have T' : Below w.heap.size w (W5.setCell ⟨w.heap.size, 12, none⟩ (.int .u8 2)) := (T.trans (below_set (Nat.le_refl _)))
  have hz' : (W5.setCell ⟨w.heap.size, 12, none⟩ (.int .u8 2)).heap.size = w.heap.size + 1 := (size_set.trans hz)
  generalize (W5.setCell ⟨w.heap.size, 12, none⟩ (.int .u8 2)) = W6 at *
  clear B T hz q12 r12 
  have B := B'
  have T := T'
  have hz := hz'
  clear B' T' hz'
  have yf4 : W6.cell? ⟨b, 4, none⟩ = some (.int .u8 0) := by rw [T.cell (by simpa using fl)]; exact f4
  have q13 := B.at (j := 13) (b := 0) rfl
  have r13 := B.free 13
  go_upto_region 10 with fail
  have B' : Buf (W6.setCell ⟨w.heap.size, 13, none⟩ (.int .u8 0)) w.heap.size [0, 0, 0, 2, 111, 56, 4, 0, 0, 240, 255, 5, 2, 0, 0] := (B.set (j := 13) (by decide) 0)
  have T' : Below w.heap.size w (W6.setCell ⟨w.heap.size, 13, none⟩ (.int .u8 0)) := (T.trans (below_set (Nat.le_refl _)))
  have hz' : (W6.setCell ⟨w.heap.size, 13, none⟩ (.int .u8 0)).heap.size = w.heap.size + 1 := (size_set.trans hz)
  generalize (W6.setCell ⟨w.heap.size, 13, none⟩ (.int .u8 0)) = W7 at *
  clear B T hz q13 r13 yf4
  have B := B'
  have T := T'
  have hz := hz'
  clear B' T' hz'
  have yf4 : W7.cell? ⟨b, 4, none⟩ = some (.int .u8 0) := by rw [T.cell (by simpa using fl)]; exact f4
  go_wp2_with fail
  go_ret
  exact ⟨w.heap.size, rfl, B, by omega, Nat.le_refl _, T⟩

end Go.Proofs.YbulkdcggFmt
