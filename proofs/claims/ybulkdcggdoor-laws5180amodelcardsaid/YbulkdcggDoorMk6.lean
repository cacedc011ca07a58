/-
  THE WALK of zzs5180aaddr, its third case.
-/
import Derived.Test.YbulkdcggDoorMk
namespace Go.Proofs.YbulkdcggDoor
open Go.RowKit

theorem be_lt8 (l : List UInt8) (h : l.length = 8) : Lib.beNat l < 18446744073709551616 := by
  have q := be_lt l
  rw [h] at q
  exact q
theorem info5 : (Ybad.prog.info? 5).map (fun i => (i.zero, i.size, i.bytes)) = some (some (.int .u8 0), 1, 1) := by kernel_rfl
theorem size5 : (Ybad.prog.info? 5).map (·.size) = some 1 := by kernel_rfl
theorem Buf.zeros {w : World} {g n : Nat} {t : TypeId} (h : w.heap[g]? = some (.cells (madeCells #[.int .u8 0] n) t (0, 0))) : Buf w g (List.replicate n 0) := by
  refine Buf.fresh (t := t) ?_
  rw [h]
  congr
  apply Array.ext'
  rw [toList_madeCells_one]
  simp [Lib.byteCells]
theorem run_copy_buf {w : World} {g o dLen dCap g' o' sLen sCap : Nat} {a b c l : List UInt8} {ty : TypeId} (B : Buf w g (a ++ (b ++ c))) (ho : o = a.length) (hl : l.length = b.length) (hn : l.length = Nat.min sLen dLen)
    (hs : ∀ j (hj : j < l.length), w.cell? ⟨g', o' + j, none⟩ = some (.int .u8 (l[j]).toNat)) :
    (Builtin.copy_ #[23, 23] ty #[.slice (some ⟨g, o, none⟩) dLen dCap, .slice (some ⟨g', o', none⟩) sLen sCap]).run Ybad.prog w = .ok (goInt l.length) (w.setCells g o (Lib.byteCells l)) := by
  subst ho
  have q := run_copy_cells (P := Ybad.prog) w 23 23 ty 5 g a.length dLen dCap ⟨g', o', none⟩ sLen sCap (Lib.byteCells l) Ybad.underlying23 size5 (by rw [Lib.byteCells_length]; exact hn) ?_ ?_ ?_ ?_
  · rw [Lib.byteCells_length] at q; exact q
  · intro j v hj
    rw [Addr.add_lit]
    obtain ⟨h1, h2⟩ := List.getElem?_eq_some_iff.1 hj
    rw [Lib.byteCells_length] at h1
    rw [hs j h1, ← h2]
    simp [Lib.byteCells]
  · intro j hj
    rw [Lib.byteCells_length] at hj
    rw [B.cell (a.length + j) (by simp; omega)]; rfl
  · intro j _
    exact B.free _
  · intro v hv
    obtain ⟨b, _, rfl⟩ := List.mem_map.1 hv
    rfl

set_option maxHeartbeats 6400000 in
set_option maxRecDepth 100000 in
theorem mk_six {w : World} {N : Nat} {p4 p6 : Addr} (zs : Zs w N p4 p6) (k : Nat) (hk : k < 256) (h0 : k % 3 = 2) (b0 b1 b2 b3 b4 b5 b6 b7 c0 c1 c2 c3 c4 c5 c6 c7 : UInt8) :
    Calls Ybad.prog 5 #[.int .u8 k, arr16 b0 b1 b2 b3 b4 b5 b6 b7 c0 c1 c2 c3 c4 c5 c6 c7] w (Made p4 p6 w) := by
  have q0 : (k : Int) % 3 = 2 := by omega
  have q1 : (k : Int).tmod 3 = 2 := by rw [Int.tmod_eq_emod_of_nonneg (by omega)]; omega
  unfold arr16
  go_enter Ybad.func5, Ybad.ntmps5
  have hmk : ∀ W : World, (Instr.makeSlice 23 (.int .i64 16) (.int .i64 16)).run Ybad.prog W = .ok (.slice (some ⟨W.heap.size, 0, none⟩) 16 16) (W.alloc (.cells (madeCells #[.int .u8 0] 16) 5)) := run_make_row' (P := Ybad.prog) 23 5 (.int .u8 0) 1 Ybad.underlying23 info5 rfl .i64 .i64 16 (by omega) (by omega)
  go_upto_region 3 with fail
  simp only [Nat.add_assoc, Nat.reduceAdd]
  obtain ⟨hsz, hbel, hb0, hb1, hb2⟩ := alloc3 w (Obj.cells #[.int .u8 b0.toNat, .int .u8 b1.toNat, .int .u8 b2.toNat, .int .u8 b3.toNat, .int .u8 b4.toNat, .int .u8 b5.toNat, .int .u8 b6.toNat, .int .u8 b7.toNat, .int .u8 c0.toNat, .int .u8 c1.toNat, .int .u8 c2.toNat, .int .u8 c3.toNat, .int .u8 c4.toNat, .int .u8 c5.toNat, .int .u8 c6.toNat, .int .u8 c7.toNat] 22) (Obj.cells #[.int .u64 0, .int .u64 0, .pointer none] 31) (Obj.cells (madeCells #[.int .u8 0] 16) 5)
  generalize ((w.alloc (Obj.cells #[.int .u8 b0.toNat, .int .u8 b1.toNat, .int .u8 b2.toNat, .int .u8 b3.toNat, .int .u8 b4.toNat, .int .u8 b5.toNat, .int .u8 b6.toNat, .int .u8 b7.toNat, .int .u8 c0.toNat, .int .u8 c1.toNat, .int .u8 c2.toNat, .int .u8 c3.toNat, .int .u8 c4.toNat, .int .u8 c5.toNat, .int .u8 c6.toNat, .int .u8 c7.toNat] 22)).alloc (Obj.cells #[.int .u64 0, .int .u64 0, .pointer none] 31)).alloc (Obj.cells (madeCells #[.int .u8 0] 16) 5) = W at *
  generalize Value.agg #[.int .u8 b0.toNat, .int .u8 b1.toNat, .int .u8 b2.toNat, .int .u8 b3.toNat, .int .u8 b4.toNat, .int .u8 b5.toNat, .int .u8 b6.toNat, .int .u8 b7.toNat, .int .u8 c0.toNat, .int .u8 c1.toNat, .int .u8 c2.toNat, .int .u8 c3.toNat, .int .u8 c4.toNat, .int .u8 c5.toNat, .int .u8 c6.toNat, .int .u8 c7.toNat] = V0
  have B0 := Buf.zeros hb2
  have L0 := Buf.fresh (l := [b0, b1, b2, b3, b4, b5, b6, b7, c0, c1, c2, c3, c4, c5, c6, c7]) hb0
  have hcopy := run_copy_buf (o := 0) (dLen := 16) (dCap := 16) (g' := w.heap.size) (o' := 0) (sLen := 16) (sCap := 16) (ty := 3) (a := []) (b := List.replicate 16 0) (c := []) (l := [b0, b1, b2, b3, b4, b5, b6, b7, c0, c1, c2, c3, c4, c5, c6, c7]) B0 rfl rfl rfl (fun j hj => by rw [Nat.zero_add]; exact L0.cell j hj)
  have B1 := Buf.put (a := []) (b := List.replicate 16 0) (c := []) (b' := [b0, b1, b2, b3, b4, b5, b6, b7, c0, c1, c2, c3, c4, c5, c6, c7]) B0 rfl
  have hB := Lib.below_setCells_w (B := w.heap.size + 2) (Nat.le_refl _) (Lib.byteCells [b0, b1, b2, b3, b4, b5, b6, b7, c0, c1, c2, c3, c4, c5, c6, c7]) 0 W
  have hsz1 : (W.setCells (w.heap.size + 2) 0 (Lib.byteCells [b0, b1, b2, b3, b4, b5, b6, b7, c0, c1, c2, c3, c4, c5, c6, c7])).heap.size = w.heap.size + 3 := by rw [size_setCells]; exact hsz
  have L1 := L0.of_block (hB.block _ (by omega))
  have hr1 := (hB.block (w.heap.size + 1) (by omega)).trans hb1
  have hU := hbel.trans (hB.mono (by omega))
  simp only [List.length_nil] at B1
  generalize W.setCells (w.heap.size + 2) 0 (Lib.byteCells [b0, b1, b2, b3, b4, b5, b6, b7, c0, c1, c2, c3, c4, c5, c6, c7]) = W1 at *
  clear B0 L0 hB hb0 hb1 hb2 hbel hsz
  have x0 : W1.cell? ⟨w.heap.size, 0, none⟩ = some (.int .u8 b0.toNat) := L1.at rfl
  have x1 : W1.cell? ⟨w.heap.size, 1, none⟩ = some (.int .u8 b1.toNat) := L1.at rfl
  have x2 : W1.cell? ⟨w.heap.size, 2, none⟩ = some (.int .u8 b2.toNat) := L1.at rfl
  have x3 : W1.cell? ⟨w.heap.size, 3, none⟩ = some (.int .u8 b3.toNat) := L1.at rfl
  have x4 : W1.cell? ⟨w.heap.size, 4, none⟩ = some (.int .u8 b4.toNat) := L1.at rfl
  have x5 : W1.cell? ⟨w.heap.size, 5, none⟩ = some (.int .u8 b5.toNat) := L1.at rfl
  have x6 : W1.cell? ⟨w.heap.size, 6, none⟩ = some (.int .u8 b6.toNat) := L1.at rfl
  have x7 : W1.cell? ⟨w.heap.size, 7, none⟩ = some (.int .u8 b7.toNat) := L1.at rfl
  have x8 : W1.cell? ⟨w.heap.size, 8, none⟩ = some (.int .u8 c0.toNat) := L1.at rfl
  have x9 : W1.cell? ⟨w.heap.size, 9, none⟩ = some (.int .u8 c1.toNat) := L1.at rfl
  have x10 : W1.cell? ⟨w.heap.size, 10, none⟩ = some (.int .u8 c2.toNat) := L1.at rfl
  have x11 : W1.cell? ⟨w.heap.size, 11, none⟩ = some (.int .u8 c3.toNat) := L1.at rfl
  have x12 : W1.cell? ⟨w.heap.size, 12, none⟩ = some (.int .u8 c4.toNat) := L1.at rfl
  have x13 : W1.cell? ⟨w.heap.size, 13, none⟩ = some (.int .u8 c5.toNat) := L1.at rfl
  have x14 : W1.cell? ⟨w.heap.size, 14, none⟩ = some (.int .u8 c6.toNat) := L1.at rfl
  have x15 : W1.cell? ⟨w.heap.size, 15, none⟩ = some (.int .u8 c7.toNat) := L1.at rfl
  have HZ := hide (zs.up (W := W1) (fun b hb => hU.block b (by have := zs.le; omega)) hU.size)
  have HB1 := hide B1
  clear L1 zs B1
  simp only [List.length_cons, List.length_nil, Nat.reduceAdd] at hcopy
  go_wp2_with fail
  refine (from16 HZ.out b0 b1 b2 b3 b4 b5 b6 b7 c0 c1 c2 c3 c4 c5 c6 c7).mono ?_
  rintro e w3 ⟨rfl, h3⟩
  rw [hsz1] at h3
  clear x0 x1 x2 x3 x4 x5 x6 x7 x8 x9 x10 x11 x12 x13 x14 x15 hcopy
  have e1 : w3.heap[w.heap.size + 1]? = _ := (h3.block _ (by omega)).trans hr1
  have y0 : w3.cell? ⟨w.heap.size + 1, 0, none⟩ = some (.int .u64 0) := by simp [World.cell?, e1]
  have y1 : w3.cell? ⟨w.heap.size + 1, 1, none⟩ = some (.int .u64 0) := by simp [World.cell?, e1]
  have y2 : w3.cell? ⟨w.heap.size + 1, 2, none⟩ = some (.pointer none) := by simp [World.cell?, e1]
  have y3 : ∀ i, w3.frozen? ⟨w.heap.size + 1, i, none⟩ = false := fun i => by simp [World.frozen?, e1]
  have hx := be_lt8 [b0, b1, b2, b3, b4, b5, b6, b7] rfl
  have hy := be_lt8 [c0, c1, c2, c3, c4, c5, c6, c7] rfl
  have hA : Hid (AddrIs p4 p6 (Lib.beNat [b0, b1, b2, b3, b4, b5, b6, b7]) (Lib.beNat [c0, c1, c2, c3, c4, c5, c6, c7]) (some p6) [b0, b1, b2, b3, b4, b5, b6, b7, c0, c1, c2, c3, c4, c5, c6, c7]) :=
    .inr (.inr ⟨rfl, hx, hy, by rw [beBytes_beNat _ 8 rfl, beBytes_beNat _ 8 rfl]; rfl⟩)
  clear hx hy
  generalize Lib.beNat [b0, b1, b2, b3, b4, b5, b6, b7] = X at *
  generalize Lib.beNat [c0, c1, c2, c3, c4, c5, c6, c7] = Y at *
  obtain ⟨r0, r1, r2⟩ := three (x := .int .u64 X) (y := .int .u64 Y) (z := .pointer (some p6)) y0 y1 y2
  have B3 : Buf (((w3.setCell ⟨w.heap.size + 1, 0, none⟩ (.int .u64 X)).setCell ⟨w.heap.size + 1, 1, none⟩ (.int .u64 Y)).setCell ⟨w.heap.size + 1, 2, none⟩ (.pointer (some p6))) (w.heap.size + 2) [b0, b1, b2, b3, b4, b5, b6, b7, c0, c1, c2, c3, c4, c5, c6, c7] :=
    HB1.out.of_block (by rw [Below.heap_setCell _ _ _ _ (by simp only; omega), Below.heap_setCell _ _ _ _ (by simp only; omega), Below.heap_setCell _ _ _ _ (by simp only; omega)]; exact h3.block _ (by omega))
  have hU3 : Below w.heap.size w (((w3.setCell ⟨w.heap.size + 1, 0, none⟩ (.int .u64 X)).setCell ⟨w.heap.size + 1, 1, none⟩ (.int .u64 Y)).setCell ⟨w.heap.size + 1, 2, none⟩ (.pointer (some p6))) :=
    (((hU.trans (h3.mono (by omega))).setCell (by simp) _).setCell (by simp) _).setCell (by simp) _
  have hz3 : w.heap.size + 2 < (((w3.setCell ⟨w.heap.size + 1, 0, none⟩ (.int .u64 X)).setCell ⟨w.heap.size + 1, 1, none⟩ (.int .u64 Y)).setCell ⟨w.heap.size + 1, 2, none⟩ (.pointer (some p6))).heap.size := by
    have := h3.size
    rw [show ∀ (q : World) (a : Addr) (v : Value), (q.setCell a v).heap.size = q.heap.size from fun q a v => by simp [World.setCell], show ∀ (q : World) (a : Addr) (v : Value), (q.setCell a v).heap.size = q.heap.size from fun q a v => by simp [World.setCell], show ∀ (q : World) (a : Addr) (v : Value), (q.setCell a v).heap.size = q.heap.size from fun q a v => by simp [World.setCell]]
    omega
  have M : Hid (Made p4 p6 w (.returned (.tuple #[.agg #[.int .u64 X, .int .u64 Y, .pointer (some p6)], .slice (some ⟨w.heap.size + 2, 0, none⟩) 16 16])) (((w3.setCell ⟨w.heap.size + 1, 0, none⟩ (.int .u64 X)).setCell ⟨w.heap.size + 1, 1, none⟩ (.int .u64 Y)).setCell ⟨w.heap.size + 1, 2, none⟩ (.pointer (some p6)))) :=
    ⟨X, Y, some p6, _, [b0, b1, b2, b3, b4, b5, b6, b7, c0, c1, c2, c3, c4, c5, c6, c7], rfl, hA.out, B3.slice hz3 (by simp [maxLen]), hU3⟩
  clear B3 hU3 hz3 e1 h3 hr1 hU HB1 HZ hA
  have z0 := y3 0
  have z1 := y3 1
  have z2 := y3 2
  clear y3
  generalize Value.agg #[.int .u8 b0.toNat, .int .u8 b1.toNat, .int .u8 b2.toNat, .int .u8 b3.toNat, .int .u8 b4.toNat, .int .u8 b5.toNat, .int .u8 b6.toNat, .int .u8 b7.toNat, .int .u8 c0.toNat, .int .u8 c1.toNat, .int .u8 c2.toNat, .int .u8 c3.toNat, .int .u8 c4.toNat, .int .u8 c5.toNat, .int .u8 c6.toNat, .int .u8 c7.toNat] = V1
  go_wp2_with fail
  generalize ((w3.setCell ⟨w.heap.size + 1, 0, none⟩ (.int .u64 X)).setCell ⟨w.heap.size + 1, 1, none⟩ (.int .u64 Y)).setCell ⟨w.heap.size + 1, 2, none⟩ (.pointer (some p6)) = W4 at *
  exact bodyPost_ret (v := .tuple #[.agg #[.int .u64 X, .int .u64 Y, .pointer (some p6)], .slice (some ⟨w.heap.size + 2, 0, none⟩) 16 16]) (by simp [results, Ybad.results5, go_sem, r0, r1, r2]) rfl M.out

theorem mk_any {w : World} {N : Nat} {p4 p6 : Addr} (zs : Zs w N p4 p6) (k : Nat) (hk : k < 256) (b0 b1 b2 b3 b4 b5 b6 b7 c0 c1 c2 c3 c4 c5 c6 c7 : UInt8) :
    Calls Ybad.prog 5 #[.int .u8 k, arr16 b0 b1 b2 b3 b4 b5 b6 b7 c0 c1 c2 c3 c4 c5 c6 c7] w (Made p4 p6 w) := by
  have h : k % 3 = 0 ∨ k % 3 = 1 ∨ k % 3 = 2 := by omega
  rcases h with h | h | h
  · exact mk_none k hk h _ _ _ _ _ _ _ _ _ _ _ _ _ _ _ _
  · exact mk_four zs k hk h _ _ _ _ _ _ _ _ _ _ _ _ _ _ _ _
  · exact mk_six zs k hk h _ _ _ _ _ _ _ _ _ _ _ _ _ _ _ _
end Go.Proofs.YbulkdcggDoor
