/-
  THE WALK of selectResponse.
-/
import Derived.Test.YbulkdcggFmtTree
namespace Go.Proofs.YbulkdcggFmt
open Go.RowKit

set_option maxHeartbeats 6400000 in
set_option maxRecDepth 100000 in
theorem resp0 {s : Shape} {N : Nat} {w : World} (t : Tree s N w) (hN : N ≤ w.heap.size) : Calls Ybaf.prog 16 #[.pointer (some ⟨s.b0, 0, none⟩)] w fun e w' => ∃ g, e = .returned (.slice (some ⟨g, 0, none⟩) 17 17) ∧ Buf w' g (respOf 0) ∧ g < w'.heap.size ∧ w.heap.size ≤ g ∧ Below w.heap.size w w' := by
  have hmk : ∀ W : World, (Instr.makeSlice 25 (.int .i64 17) (.int .i64 17)).run Ybaf.prog W = .ok (.slice (some ⟨W.heap.size, 0, none⟩) 17 17) (W.alloc (.cells (madeCells #[.int .u8 0] 17) 5)) := fun W => run_make_row' (P := Ybaf.prog) 25 5 (.int .u8 0) 1 Ybaf.underlying25 info5 rfl .i64 .i64 17 (by omega) (by omega) W
  have f0 := t.get 0 (g := s.b0) (o := 0) (v := .int .u16 16128) rfl
  have f1 := t.get 1 (g := s.b0) (o := 1) (v := .int .u8 1) rfl
  have f1c := f1.2
  have f0c := f0.2
  have fl : s.b0 < w.heap.size := Nat.lt_of_lt_of_le f0.1 hN
  have f3 := (t.get 3 (g := s.b0) (o := 3) (v := .slice (some ⟨s.c0, 0, none⟩) 2 s.p0) rfl).2
  have hk := t.k0
  have g0 := t.get 42 (g := s.c0) (o := 0) (v := .pointer (some ⟨s.b1, 0, none⟩)) rfl
  have h0 := t.get 8 (g := s.b1) (o := 1) (v := .int .u8 2) rfl
  have g0c := g0.2
  have h0c := h0.2
  have gl0 : s.c0 < w.heap.size := Nat.lt_of_lt_of_le g0.1 hN
  have hl0 : s.b1 < w.heap.size := Nat.lt_of_lt_of_le h0.1 hN
  clear g0 h0
  have g1 := t.get 43 (g := s.c0) (o := 1) (v := .pointer (some ⟨s.b4, 0, none⟩)) rfl
  have h1 := t.get 29 (g := s.b4) (o := 1) (v := .int .u8 2) rfl
  have g1c := g1.2
  have h1c := h1.2
  have gl1 : s.c0 < w.heap.size := Nat.lt_of_lt_of_le g1.1 hN
  have hl1 : s.b4 < w.heap.size := Nat.lt_of_lt_of_le h1.1 hN
  clear g1 h1
  clear t f0 f1
  generalize s.b0 = b at *
  generalize s.c0 = ck at *
  generalize s.p0 = pk at *
  generalize s.b1 = bb0 at *
  generalize s.b4 = bb1 at *
  go_enter Ybaf.func16, Ybaf.ntmps16
  go_upto_region 14 with fail
  obtain ⟨hsz, hbel, hb2⟩ := alloc1 w (Obj.cells (madeCells #[.int .u8 0] 17) 5)
  generalize w.alloc (Obj.cells (madeCells #[.int .u8 0] 17) 5) = W at *
  have T : Below w.heap.size w W := hbel
  have hz : W.heap.size = w.heap.size + 1 := hsz
  have B : Buf W w.heap.size [0, 0, 0, 0, 0, 0, 0, 0, 0, 0, 0, 0, 0, 0, 0, 0, 0] := Buf.zeros hb2
  clear hmk hbel hb2 hsz
  have yf0c : W.cell? ⟨b, 0, none⟩ = some (.int .u16 16128) := by rw [T.cell (by simpa using fl)]; exact f0c
  have q4 := B.at (j := 4) (b := 0) rfl
  have r4 := B.free 4
  have q5 := B.at (j := 5) (b := 0) rfl
  have r5 := B.free 5
  go_region
  go_upto_region 15 with fail
  have B' : Buf ((W.setCell ⟨w.heap.size, 4, none⟩ (.int .u8 63)).setCell ⟨w.heap.size, 5, none⟩ (.int .u8 0)).drew w.heap.size [0, 0, 0, 0, 63, 0, 0, 0, 0, 0, 0, 0, 0, 0, 0, 0, 0] := ((B.set (j := 4) (by decide) 63).set (j := 5) (by decide) 0).drew
  have T' : Below w.heap.size w ((W.setCell ⟨w.heap.size, 4, none⟩ (.int .u8 63)).setCell ⟨w.heap.size, 5, none⟩ (.int .u8 0)).drew := ((T.trans (below_set (Nat.le_refl _))).trans (below_set (Nat.le_refl _))).drew
  have hz' : ((W.setCell ⟨w.heap.size, 4, none⟩ (.int .u8 63)).setCell ⟨w.heap.size, 5, none⟩ (.int .u8 0)).drew.heap.size = w.heap.size + 1 := (size_set.trans (size_set.trans hz))
  generalize ((W.setCell ⟨w.heap.size, 4, none⟩ (.int .u8 63)).setCell ⟨w.heap.size, 5, none⟩ (.int .u8 0)).drew = W1 at *
  clear B T hz q4 r4 q5 r5 yf0c
  have B := B'
  have T := T'
  have hz := hz'
  clear B' T' hz'
  have yf1c : W1.cell? ⟨b, 1, none⟩ = some (.int .u8 1) := by rw [T.cell (by simpa using fl)]; exact f1c
  have q6 := B.at (j := 6) (b := 0) rfl
  have r6 := B.free 6
  go_upto_region 16 with fail
  have B' : Buf (W1.setCell ⟨w.heap.size, 6, none⟩ (.int .u8 1)) w.heap.size [0, 0, 0, 0, 63, 0, 1, 0, 0, 0, 0, 0, 0, 0, 0, 0, 0] := (B.set (j := 6) (by decide) 1)
  have T' : Below w.heap.size w (W1.setCell ⟨w.heap.size, 6, none⟩ (.int .u8 1)) := (T.trans (below_set (Nat.le_refl _)))
  have hz' : (W1.setCell ⟨w.heap.size, 6, none⟩ (.int .u8 1)).heap.size = w.heap.size + 1 := (size_set.trans hz)
  generalize (W1.setCell ⟨w.heap.size, 6, none⟩ (.int .u8 1)) = W2 at *
  clear B T hz q6 r6 yf1c
  have B := B'
  have T := T'
  have hz := hz'
  clear B' T' hz'
  have q12 := B.at (j := 12) (b := 0) rfl
  have r12 := B.free 12
  go_upto_region 17 with fail
  have B' : Buf (W2.setCell ⟨w.heap.size, 12, none⟩ (.int .u8 4)) w.heap.size [0, 0, 0, 0, 63, 0, 1, 0, 0, 0, 0, 0, 4, 0, 0, 0, 0] := (B.set (j := 12) (by decide) 4)
  have T' : Below w.heap.size w (W2.setCell ⟨w.heap.size, 12, none⟩ (.int .u8 4)) := (T.trans (below_set (Nat.le_refl _)))
  have hz' : (W2.setCell ⟨w.heap.size, 12, none⟩ (.int .u8 4)).heap.size = w.heap.size + 1 := (size_set.trans hz)
  generalize (W2.setCell ⟨w.heap.size, 12, none⟩ (.int .u8 4)) = W3 at *
  clear B T hz q12 r12 
  have B := B'
  have T := T'
  have hz := hz'
  clear B' T' hz'
  have q13 := B.at (j := 13) (b := 0) rfl
  have r13 := B.free 13
  go_upto_region 18 with fail
  have B' : Buf (W3.setCell ⟨w.heap.size, 13, none⟩ (.int .u8 128)) w.heap.size [0, 0, 0, 0, 63, 0, 1, 0, 0, 0, 0, 0, 4, 128, 0, 0, 0] := (B.set (j := 13) (by decide) 128)
  have T' : Below w.heap.size w (W3.setCell ⟨w.heap.size, 13, none⟩ (.int .u8 128)) := (T.trans (below_set (Nat.le_refl _)))
  have hz' : (W3.setCell ⟨w.heap.size, 13, none⟩ (.int .u8 128)).heap.size = w.heap.size + 1 := (size_set.trans hz)
  generalize (W3.setCell ⟨w.heap.size, 13, none⟩ (.int .u8 128)) = W4 at *
  clear B T hz q13 r13 
  have B := B'
  have T := T'
  have hz := hz'
  clear B' T' hz'
  have yf3 : W4.cell? ⟨b, 3, none⟩ = some (.slice (some ⟨ck, 0, none⟩) 2 pk) := by rw [T.cell (by simpa using fl)]; exact f3
  go_upto_region 19 with fail
  clear yf3
  go_loopg [107] 2 (fun g s wr => ∃ i : Nat, s = .int .i64 (i : Nat) ∧ i ≤ 2 ∧ g = 2 - i ∧ Below w.heap.size w wr ∧ wr.heap.size = w.heap.size + 1 ∧ Buf wr w.heap.size ([0, 0, 0, 0, 63, 0, 1, 0, 0, 0, 0, 0, 4, 128, 0, 0, 0].set 14 (UInt8.ofNat i)))
  case atStart => exact ⟨0, rfl, by omega, rfl, T, hz, B⟩
  case round =>
    obtain ⟨i, rfl, hi, hg, T, hz, B⟩ := hrel
    have hc : i = 0 ∨ i = 1 ∨ i = 2 := by omega
    rcases hc with rfl | rfl | rfl
    · have z0 : wr.cell? ⟨ck, 0, none⟩ = some (.pointer (some ⟨bb0, 0, none⟩)) := by rw [T.cell (by simpa using gl0)]; exact g0c
      have z1 : wr.cell? ⟨bb0, 1, none⟩ = some (.int .u8 2) := by rw [T.cell (by simpa using hl0)]; exact h0c
      have q := B.at (j := 14) (b := 0) rfl
      have r := B.free 14
      go_wp2_with fail
      go_roundg (2 - 1)
      case measure => omega
      case rel => exact ⟨1, rfl, by omega, rfl, T.trans (below_set (Nat.le_refl _)), size_set.trans hz, B.set (j := 14) (by decide) 1⟩
    · have z0 : wr.cell? ⟨ck, 1, none⟩ = some (.pointer (some ⟨bb1, 0, none⟩)) := by rw [T.cell (by simpa using gl1)]; exact g1c
      have z1 : wr.cell? ⟨bb1, 1, none⟩ = some (.int .u8 2) := by rw [T.cell (by simpa using hl1)]; exact h1c
      have q := B.at (j := 14) (b := 1) rfl
      have r := B.free 14
      go_wp2_with fail
      go_roundg (2 - 2)
      case measure => omega
      case rel => exact ⟨2, rfl, by omega, rfl, T.trans (below_set (Nat.le_refl _)), size_set.trans hz, B.set (j := 14) (by decide) 2⟩
    · go_wp2_with fail
      go_ret
      exact ⟨w.heap.size, rfl, B, by omega, Nat.le_refl _, T⟩

set_option maxHeartbeats 6400000 in
set_option maxRecDepth 100000 in
theorem resp1 {s : Shape} {N : Nat} {w : World} (t : Tree s N w) (hN : N ≤ w.heap.size) : Calls Ybaf.prog 16 #[.pointer (some ⟨s.b1, 0, none⟩)] w fun e w' => ∃ g, e = .returned (.slice (some ⟨g, 0, none⟩) 17 17) ∧ Buf w' g (respOf 1) ∧ g < w'.heap.size ∧ w.heap.size ≤ g ∧ Below w.heap.size w w' := by
  have hmk : ∀ W : World, (Instr.makeSlice 25 (.int .i64 17) (.int .i64 17)).run Ybaf.prog W = .ok (.slice (some ⟨W.heap.size, 0, none⟩) 17 17) (W.alloc (.cells (madeCells #[.int .u8 0] 17) 5)) := fun W => run_make_row' (P := Ybaf.prog) 25 5 (.int .u8 0) 1 Ybaf.underlying25 info5 rfl .i64 .i64 17 (by omega) (by omega) W
  have f0 := t.get 7 (g := s.b1) (o := 0) (v := .int .u16 32528) rfl
  have f1 := t.get 8 (g := s.b1) (o := 1) (v := .int .u8 2) rfl
  have f1c := f1.2
  have f0c := f0.2
  have fl : s.b1 < w.heap.size := Nat.lt_of_lt_of_le f0.1 hN
  have f3 := (t.get 10 (g := s.b1) (o := 3) (v := .slice (some ⟨s.c1, 0, none⟩) 2 s.p1) rfl).2
  have hk := t.k1
  have g0 := t.get 44 (g := s.c1) (o := 0) (v := .pointer (some ⟨s.b2, 0, none⟩)) rfl
  have h0 := t.get 15 (g := s.b2) (o := 1) (v := .int .u8 4) rfl
  have g0c := g0.2
  have h0c := h0.2
  have gl0 : s.c1 < w.heap.size := Nat.lt_of_lt_of_le g0.1 hN
  have hl0 : s.b2 < w.heap.size := Nat.lt_of_lt_of_le h0.1 hN
  clear g0 h0
  have g1 := t.get 45 (g := s.c1) (o := 1) (v := .pointer (some ⟨s.b3, 0, none⟩)) rfl
  have h1 := t.get 22 (g := s.b3) (o := 1) (v := .int .u8 4) rfl
  have g1c := g1.2
  have h1c := h1.2
  have gl1 : s.c1 < w.heap.size := Nat.lt_of_lt_of_le g1.1 hN
  have hl1 : s.b3 < w.heap.size := Nat.lt_of_lt_of_le h1.1 hN
  clear g1 h1
  clear t f0 f1
  generalize s.b1 = b at *
  generalize s.c1 = ck at *
  generalize s.p1 = pk at *
  generalize s.b2 = bb0 at *
  generalize s.b3 = bb1 at *
  go_enter Ybaf.func16, Ybaf.ntmps16
  go_upto_region 14 with fail
  obtain ⟨hsz, hbel, hb2⟩ := alloc1 w (Obj.cells (madeCells #[.int .u8 0] 17) 5)
  generalize w.alloc (Obj.cells (madeCells #[.int .u8 0] 17) 5) = W at *
  have T : Below w.heap.size w W := hbel
  have hz : W.heap.size = w.heap.size + 1 := hsz
  have B : Buf W w.heap.size [0, 0, 0, 0, 0, 0, 0, 0, 0, 0, 0, 0, 0, 0, 0, 0, 0] := Buf.zeros hb2
  clear hmk hbel hb2 hsz
  have yf0c : W.cell? ⟨b, 0, none⟩ = some (.int .u16 32528) := by rw [T.cell (by simpa using fl)]; exact f0c
  have q4 := B.at (j := 4) (b := 0) rfl
  have r4 := B.free 4
  have q5 := B.at (j := 5) (b := 0) rfl
  have r5 := B.free 5
  go_region
  go_upto_region 15 with fail
  have B' : Buf ((W.setCell ⟨w.heap.size, 4, none⟩ (.int .u8 127)).setCell ⟨w.heap.size, 5, none⟩ (.int .u8 16)).drew w.heap.size [0, 0, 0, 0, 127, 16, 0, 0, 0, 0, 0, 0, 0, 0, 0, 0, 0] := ((B.set (j := 4) (by decide) 127).set (j := 5) (by decide) 16).drew
  have T' : Below w.heap.size w ((W.setCell ⟨w.heap.size, 4, none⟩ (.int .u8 127)).setCell ⟨w.heap.size, 5, none⟩ (.int .u8 16)).drew := ((T.trans (below_set (Nat.le_refl _))).trans (below_set (Nat.le_refl _))).drew
  have hz' : ((W.setCell ⟨w.heap.size, 4, none⟩ (.int .u8 127)).setCell ⟨w.heap.size, 5, none⟩ (.int .u8 16)).drew.heap.size = w.heap.size + 1 := (size_set.trans (size_set.trans hz))
  generalize ((W.setCell ⟨w.heap.size, 4, none⟩ (.int .u8 127)).setCell ⟨w.heap.size, 5, none⟩ (.int .u8 16)).drew = W1 at *
  clear B T hz q4 r4 q5 r5 yf0c
  have B := B'
  have T := T'
  have hz := hz'
  clear B' T' hz'
  have yf1c : W1.cell? ⟨b, 1, none⟩ = some (.int .u8 2) := by rw [T.cell (by simpa using fl)]; exact f1c
  have q6 := B.at (j := 6) (b := 0) rfl
  have r6 := B.free 6
  go_upto_region 16 with fail
  have B' : Buf (W1.setCell ⟨w.heap.size, 6, none⟩ (.int .u8 2)) w.heap.size [0, 0, 0, 0, 127, 16, 2, 0, 0, 0, 0, 0, 0, 0, 0, 0, 0] := (B.set (j := 6) (by decide) 2)
  have T' : Below w.heap.size w (W1.setCell ⟨w.heap.size, 6, none⟩ (.int .u8 2)) := (T.trans (below_set (Nat.le_refl _)))
  have hz' : (W1.setCell ⟨w.heap.size, 6, none⟩ (.int .u8 2)).heap.size = w.heap.size + 1 := (size_set.trans hz)
  generalize (W1.setCell ⟨w.heap.size, 6, none⟩ (.int .u8 2)) = W2 at *
  clear B T hz q6 r6 yf1c
  have B := B'
  have T := T'
  have hz := hz'
  clear B' T' hz'
  have q12 := B.at (j := 12) (b := 0) rfl
  have r12 := B.free 12
  go_upto_region 17 with fail
  have B' : Buf (W2.setCell ⟨w.heap.size, 12, none⟩ (.int .u8 4)) w.heap.size [0, 0, 0, 0, 127, 16, 2, 0, 0, 0, 0, 0, 4, 0, 0, 0, 0] := (B.set (j := 12) (by decide) 4)
  have T' : Below w.heap.size w (W2.setCell ⟨w.heap.size, 12, none⟩ (.int .u8 4)) := (T.trans (below_set (Nat.le_refl _)))
  have hz' : (W2.setCell ⟨w.heap.size, 12, none⟩ (.int .u8 4)).heap.size = w.heap.size + 1 := (size_set.trans hz)
  generalize (W2.setCell ⟨w.heap.size, 12, none⟩ (.int .u8 4)) = W3 at *
  clear B T hz q12 r12 
  have B := B'
  have T := T'
  have hz := hz'
  clear B' T' hz'
  have q13 := B.at (j := 13) (b := 0) rfl
  have r13 := B.free 13
  go_upto_region 18 with fail
  have B' : Buf (W3.setCell ⟨w.heap.size, 13, none⟩ (.int .u8 128)) w.heap.size [0, 0, 0, 0, 127, 16, 2, 0, 0, 0, 0, 0, 4, 128, 0, 0, 0] := (B.set (j := 13) (by decide) 128)
  have T' : Below w.heap.size w (W3.setCell ⟨w.heap.size, 13, none⟩ (.int .u8 128)) := (T.trans (below_set (Nat.le_refl _)))
  have hz' : (W3.setCell ⟨w.heap.size, 13, none⟩ (.int .u8 128)).heap.size = w.heap.size + 1 := (size_set.trans hz)
  generalize (W3.setCell ⟨w.heap.size, 13, none⟩ (.int .u8 128)) = W4 at *
  clear B T hz q13 r13 
  have B := B'
  have T := T'
  have hz := hz'
  clear B' T' hz'
  have yf3 : W4.cell? ⟨b, 3, none⟩ = some (.slice (some ⟨ck, 0, none⟩) 2 pk) := by rw [T.cell (by simpa using fl)]; exact f3
  go_upto_region 19 with fail
  clear yf3
  go_loopg [107] 2 (fun g s wr => ∃ i : Nat, s = .int .i64 (i : Nat) ∧ i ≤ 2 ∧ g = 2 - i ∧ Below w.heap.size w wr ∧ wr.heap.size = w.heap.size + 1 ∧ Buf wr w.heap.size ([0, 0, 0, 0, 127, 16, 2, 0, 0, 0, 0, 0, 4, 128, 0, 0, 0].set 15 (UInt8.ofNat i)))
  case atStart => exact ⟨0, rfl, by omega, rfl, T, hz, B⟩
  case round =>
    obtain ⟨i, rfl, hi, hg, T, hz, B⟩ := hrel
    have hc : i = 0 ∨ i = 1 ∨ i = 2 := by omega
    rcases hc with rfl | rfl | rfl
    · have z0 : wr.cell? ⟨ck, 0, none⟩ = some (.pointer (some ⟨bb0, 0, none⟩)) := by rw [T.cell (by simpa using gl0)]; exact g0c
      have z1 : wr.cell? ⟨bb0, 1, none⟩ = some (.int .u8 4) := by rw [T.cell (by simpa using hl0)]; exact h0c
      have q := B.at (j := 15) (b := 0) rfl
      have r := B.free 15
      go_wp2_with fail
      go_roundg (2 - 1)
      case measure => omega
      case rel => exact ⟨1, rfl, by omega, rfl, T.trans (below_set (Nat.le_refl _)), size_set.trans hz, B.set (j := 15) (by decide) 1⟩
    · have z0 : wr.cell? ⟨ck, 1, none⟩ = some (.pointer (some ⟨bb1, 0, none⟩)) := by rw [T.cell (by simpa using gl1)]; exact g1c
      have z1 : wr.cell? ⟨bb1, 1, none⟩ = some (.int .u8 4) := by rw [T.cell (by simpa using hl1)]; exact h1c
      have q := B.at (j := 15) (b := 1) rfl
      have r := B.free 15
      go_wp2_with fail
      go_roundg (2 - 2)
      case measure => omega
      case rel => exact ⟨2, rfl, by omega, rfl, T.trans (below_set (Nat.le_refl _)), size_set.trans hz, B.set (j := 15) (by decide) 2⟩
    · go_wp2_with fail
      go_ret
      exact ⟨w.heap.size, rfl, B, by omega, Nat.le_refl _, T⟩

set_option maxHeartbeats 6400000 in
set_option maxRecDepth 100000 in
theorem resp4 {s : Shape} {N : Nat} {w : World} (t : Tree s N w) (hN : N ≤ w.heap.size) : Calls Ybaf.prog 16 #[.pointer (some ⟨s.b4, 0, none⟩)] w fun e w' => ∃ g, e = .returned (.slice (some ⟨g, 0, none⟩) 17 17) ∧ Buf w' g (respOf 4) ∧ g < w'.heap.size ∧ w.heap.size ≤ g ∧ Below w.heap.size w w' := by
  have hmk : ∀ W : World, (Instr.makeSlice 25 (.int .i64 17) (.int .i64 17)).run Ybaf.prog W = .ok (.slice (some ⟨W.heap.size, 0, none⟩) 17 17) (W.alloc (.cells (madeCells #[.int .u8 0] 17) 5)) := fun W => run_make_row' (P := Ybaf.prog) 25 5 (.int .u8 0) 1 Ybaf.underlying25 info5 rfl .i64 .i64 17 (by omega) (by omega) W
  have f0 := t.get 28 (g := s.b4) (o := 0) (v := .int .u16 32544) rfl
  have f1 := t.get 29 (g := s.b4) (o := 1) (v := .int .u8 2) rfl
  have f1c := f1.2
  have f0c := f0.2
  have fl : s.b4 < w.heap.size := Nat.lt_of_lt_of_le f0.1 hN
  have f3 := (t.get 31 (g := s.b4) (o := 3) (v := .slice (some ⟨s.c4, 0, none⟩) 1 s.p4) rfl).2
  have hk := t.k4
  have g0 := t.get 46 (g := s.c4) (o := 0) (v := .pointer (some ⟨s.b5, 0, none⟩)) rfl
  have h0 := t.get 36 (g := s.b5) (o := 1) (v := .int .u8 4) rfl
  have g0c := g0.2
  have h0c := h0.2
  have gl0 : s.c4 < w.heap.size := Nat.lt_of_lt_of_le g0.1 hN
  have hl0 : s.b5 < w.heap.size := Nat.lt_of_lt_of_le h0.1 hN
  clear g0 h0
  clear t f0 f1
  generalize s.b4 = b at *
  generalize s.c4 = ck at *
  generalize s.p4 = pk at *
  generalize s.b5 = bb0 at *
  go_enter Ybaf.func16, Ybaf.ntmps16
  go_upto_region 14 with fail
  obtain ⟨hsz, hbel, hb2⟩ := alloc1 w (Obj.cells (madeCells #[.int .u8 0] 17) 5)
  generalize w.alloc (Obj.cells (madeCells #[.int .u8 0] 17) 5) = W at *
  have T : Below w.heap.size w W := hbel
  have hz : W.heap.size = w.heap.size + 1 := hsz
  have B : Buf W w.heap.size [0, 0, 0, 0, 0, 0, 0, 0, 0, 0, 0, 0, 0, 0, 0, 0, 0] := Buf.zeros hb2
  clear hmk hbel hb2 hsz
  have yf0c : W.cell? ⟨b, 0, none⟩ = some (.int .u16 32544) := by rw [T.cell (by simpa using fl)]; exact f0c
  have q4 := B.at (j := 4) (b := 0) rfl
  have r4 := B.free 4
  have q5 := B.at (j := 5) (b := 0) rfl
  have r5 := B.free 5
  go_region
  go_upto_region 15 with fail
  have B' : Buf ((W.setCell ⟨w.heap.size, 4, none⟩ (.int .u8 127)).setCell ⟨w.heap.size, 5, none⟩ (.int .u8 32)).drew w.heap.size [0, 0, 0, 0, 127, 32, 0, 0, 0, 0, 0, 0, 0, 0, 0, 0, 0] := ((B.set (j := 4) (by decide) 127).set (j := 5) (by decide) 32).drew
  have T' : Below w.heap.size w ((W.setCell ⟨w.heap.size, 4, none⟩ (.int .u8 127)).setCell ⟨w.heap.size, 5, none⟩ (.int .u8 32)).drew := ((T.trans (below_set (Nat.le_refl _))).trans (below_set (Nat.le_refl _))).drew
  have hz' : ((W.setCell ⟨w.heap.size, 4, none⟩ (.int .u8 127)).setCell ⟨w.heap.size, 5, none⟩ (.int .u8 32)).drew.heap.size = w.heap.size + 1 := (size_set.trans (size_set.trans hz))
  generalize ((W.setCell ⟨w.heap.size, 4, none⟩ (.int .u8 127)).setCell ⟨w.heap.size, 5, none⟩ (.int .u8 32)).drew = W1 at *
  clear B T hz q4 r4 q5 r5 yf0c
  have B := B'
  have T := T'
  have hz := hz'
  clear B' T' hz'
  have yf1c : W1.cell? ⟨b, 1, none⟩ = some (.int .u8 2) := by rw [T.cell (by simpa using fl)]; exact f1c
  have q6 := B.at (j := 6) (b := 0) rfl
  have r6 := B.free 6
  go_upto_region 16 with fail
  have B' : Buf (W1.setCell ⟨w.heap.size, 6, none⟩ (.int .u8 2)) w.heap.size [0, 0, 0, 0, 127, 32, 2, 0, 0, 0, 0, 0, 0, 0, 0, 0, 0] := (B.set (j := 6) (by decide) 2)
  have T' : Below w.heap.size w (W1.setCell ⟨w.heap.size, 6, none⟩ (.int .u8 2)) := (T.trans (below_set (Nat.le_refl _)))
  have hz' : (W1.setCell ⟨w.heap.size, 6, none⟩ (.int .u8 2)).heap.size = w.heap.size + 1 := (size_set.trans hz)
  generalize (W1.setCell ⟨w.heap.size, 6, none⟩ (.int .u8 2)) = W2 at *
  clear B T hz q6 r6 yf1c
  have B := B'
  have T := T'
  have hz := hz'
  clear B' T' hz'
  have q12 := B.at (j := 12) (b := 0) rfl
  have r12 := B.free 12
  go_upto_region 17 with fail
  have B' : Buf (W2.setCell ⟨w.heap.size, 12, none⟩ (.int .u8 4)) w.heap.size [0, 0, 0, 0, 127, 32, 2, 0, 0, 0, 0, 0, 4, 0, 0, 0, 0] := (B.set (j := 12) (by decide) 4)
  have T' : Below w.heap.size w (W2.setCell ⟨w.heap.size, 12, none⟩ (.int .u8 4)) := (T.trans (below_set (Nat.le_refl _)))
  have hz' : (W2.setCell ⟨w.heap.size, 12, none⟩ (.int .u8 4)).heap.size = w.heap.size + 1 := (size_set.trans hz)
  generalize (W2.setCell ⟨w.heap.size, 12, none⟩ (.int .u8 4)) = W3 at *
  clear B T hz q12 r12 
  have B := B'
  have T := T'
  have hz := hz'
  clear B' T' hz'
  have q13 := B.at (j := 13) (b := 0) rfl
  have r13 := B.free 13
  go_upto_region 18 with fail
  have B' : Buf (W3.setCell ⟨w.heap.size, 13, none⟩ (.int .u8 128)) w.heap.size [0, 0, 0, 0, 127, 32, 2, 0, 0, 0, 0, 0, 4, 128, 0, 0, 0] := (B.set (j := 13) (by decide) 128)
  have T' : Below w.heap.size w (W3.setCell ⟨w.heap.size, 13, none⟩ (.int .u8 128)) := (T.trans (below_set (Nat.le_refl _)))
  have hz' : (W3.setCell ⟨w.heap.size, 13, none⟩ (.int .u8 128)).heap.size = w.heap.size + 1 := (size_set.trans hz)
  generalize (W3.setCell ⟨w.heap.size, 13, none⟩ (.int .u8 128)) = W4 at *
  clear B T hz q13 r13 
  have B := B'
  have T := T'
  have hz := hz'
  clear B' T' hz'
  have yf3 : W4.cell? ⟨b, 3, none⟩ = some (.slice (some ⟨ck, 0, none⟩) 1 pk) := by rw [T.cell (by simpa using fl)]; exact f3
  go_upto_region 19 with fail
  clear yf3
  go_loopg [107] 1 (fun g s wr => ∃ i : Nat, s = .int .i64 (i : Nat) ∧ i ≤ 1 ∧ g = 1 - i ∧ Below w.heap.size w wr ∧ wr.heap.size = w.heap.size + 1 ∧ Buf wr w.heap.size ([0, 0, 0, 0, 127, 32, 2, 0, 0, 0, 0, 0, 4, 128, 0, 0, 0].set 15 (UInt8.ofNat i)))
  case atStart => exact ⟨0, rfl, by omega, rfl, T, hz, B⟩
  case round =>
    obtain ⟨i, rfl, hi, hg, T, hz, B⟩ := hrel
    have hc : i = 0 ∨ i = 1 := by omega
    rcases hc with rfl | rfl
    · have z0 : wr.cell? ⟨ck, 0, none⟩ = some (.pointer (some ⟨bb0, 0, none⟩)) := by rw [T.cell (by simpa using gl0)]; exact g0c
      have z1 : wr.cell? ⟨bb0, 1, none⟩ = some (.int .u8 4) := by rw [T.cell (by simpa using hl0)]; exact h0c
      have q := B.at (j := 15) (b := 0) rfl
      have r := B.free 15
      go_wp2_with fail
      go_roundg (1 - 1)
      case measure => omega
      case rel => exact ⟨1, rfl, by omega, rfl, T.trans (below_set (Nat.le_refl _)), size_set.trans hz, B.set (j := 15) (by decide) 1⟩
    · go_wp2_with fail
      go_ret
      exact ⟨w.heap.size, rfl, B, by omega, Nat.le_refl _, T⟩

end Go.Proofs.YbulkdcggFmt
