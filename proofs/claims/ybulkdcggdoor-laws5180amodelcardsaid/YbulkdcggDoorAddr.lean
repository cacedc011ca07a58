/-
  THE WALKS of AddrFrom4, AddrFrom16 and AsSlice.
-/
import Derived.Test.YbulkdcggDoorPut
import Derived.Deep.RegionHeld3
namespace Go.Proofs.YbulkdcggDoor
open Go.RowKit

/-- what the listed variables hold; N bounds the blocks that are read -/
structure Zs (w : World) (N : Nat) (p4 p6 : Addr) : Prop where
  z4 : w.cell? ⟨0, 0, none⟩ = some (.pointer (some p4))
  z6 : w.cell? ⟨1, 0, none⟩ = some (.pointer (some p6))
  z0 : w.cell? ⟨3, 0, none⟩ = some (.pointer none)
  ne : p4 ≠ p6
  b4 : ∃ c t, w.heap[p4.block]? = some (.cells c t (0, 0))
  b6 : ∃ c t, w.heap[p6.block]? = some (.cells c t (0, 0))
  l4 : p4.block < N
  l6 : p6.block < N
  l3 : 3 < N
  le : N ≤ w.heap.size
theorem Zs.up {w W : World} {N : Nat} {p4 p6 : Addr} (z : Zs w N p4 p6) (h : ∀ b, b < N → W.heap[b]? = w.heap[b]?) (hs : w.heap.size ≤ W.heap.size) : Zs W N p4 p6 := by
  obtain ⟨h1, h2, h3, h4, h5, h6, h7, h8, h9, h10⟩ := z
  refine ⟨?_, ?_, ?_, h4, ?_, ?_, h7, h8, h9, by omega⟩
  · rw [World.cell?_of_block (w := w) (h 0 (by omega))]; exact h1
  · rw [World.cell?_of_block (w := w) (h 1 (by omega))]; exact h2
  · rw [World.cell?_of_block (w := w) (h 3 (by omega))]; exact h3
  · rw [h _ h7]; exact h5
  · rw [h _ h8]; exact h6
theorem Zs.eq4 {w : World} {N : Nat} {p4 p6 : Addr} (z : Zs w N p4 p6) : (binOp .eql 29 (.agg #[.pointer (some p6)]) (.agg #[.pointer (some p4)])).run Ybad.prog w = .ok (.bool false) w := by
  obtain ⟨c, t, h5⟩ := z.b4
  obtain ⟨c', t', h6⟩ := z.b6
  exact handle_eq (ptr_other w (fun e => z.ne e.symm) h6 h5)

theorem or_at (i : Nat) (hi : i ≤ 64) {x y : Int} (hx₀ : 0 ≤ x) (hx : x % 2 ^ i = 0) (hx₁ : x < 18446744073709551616) (hy₀ : 0 ≤ y) (hy : y < 2 ^ i) : bits .or .u64 x y = x + y := by
  refine bits_join .u64 64 (by decide) wraps_u64 i x y hx₀ hx hx₁ hy₀ hy (Int.lt_of_lt_of_le hy ?_)
  exact_mod_cast Nat.pow_le_pow_right (by decide) hi
theorem alloc2 (w : World) (o1 o2 : Obj) : ((w.alloc o1).alloc o2).heap.size = w.heap.size + 2 ∧ Below w.heap.size w ((w.alloc o1).alloc o2) ∧ ((w.alloc o1).alloc o2).heap[w.heap.size]? = some o1 ∧ ((w.alloc o1).alloc o2).heap[w.heap.size + 1]? = some o2 := by
  refine ⟨by simp, ((Below.refl _ _).alloc (Nat.le_refl _) _).alloc (by simp) _, ?_, ?_⟩
  · rw [Below.heap_alloc _ _ _ (by simp)]
    show (w.heap.push o1)[w.heap.size]? = some o1
    simp
  · show ((w.heap.push o1).push o2)[w.heap.size + 1]? = some o2
    rw [show w.heap.size + 1 = (w.heap.push o1).size by simp]
    exact Array.getElem?_push_size
theorem three {w : World} {g : Nat} {a b c x y z : Value} (h0 : w.cell? ⟨g, 0, none⟩ = some a) (h1 : w.cell? ⟨g, 1, none⟩ = some b) (h2 : w.cell? ⟨g, 2, none⟩ = some c) :
    (((w.setCell ⟨g, 0, none⟩ x).setCell ⟨g, 1, none⟩ y).setCell ⟨g, 2, none⟩ z).cell? ⟨g, 0, none⟩ = some x ∧ (((w.setCell ⟨g, 0, none⟩ x).setCell ⟨g, 1, none⟩ y).setCell ⟨g, 2, none⟩ z).cell? ⟨g, 1, none⟩ = some y ∧ (((w.setCell ⟨g, 0, none⟩ x).setCell ⟨g, 1, none⟩ y).setCell ⟨g, 2, none⟩ z).cell? ⟨g, 2, none⟩ = some z := by
  have e : ∀ (W : World) (i j : Nat) (v : Value), i ≠ j → (W.setCell ⟨g, i, none⟩ v).cell? ⟨g, j, none⟩ = W.cell? ⟨g, j, none⟩ := fun W i j v h => by
    apply World.cell?_setCell_other
    intro q
    exact h (congrArg Addr.off q)
  have f : ∀ (W : World) (i : Nat) (v u : Value), W.cell? ⟨g, i, none⟩ = some u → (W.setCell ⟨g, i, none⟩ v).cell? ⟨g, i, none⟩ = some v := fun W i v u h => by
    apply World.cell?_setCell_same
    exact h
  refine ⟨?_, ?_, ?_⟩
  · rw [e _ 2 0 _ (by decide), e _ 1 0 _ (by decide), f _ 0 _ _ h0]
  · rw [e _ 2 1 _ (by decide), f _ 1 _ b (by rw [e _ 0 1 _ (by decide), h1])]
  · rw [f _ 2 _ c (by rw [e _ 1 2 _ (by decide), e _ 0 2 _ (by decide), h2])]
theorem s5 : Ybad.prog.cellsOf 5 = 1 := by kernel_rfl
theorem s31 : Ybad.prog.cellsOf 31 = 3 := by kernel_rfl
theorem s29 : Ybad.prog.cellsOf 29 = 1 := by kernel_rfl
theorem s26 : Ybad.prog.cellsOf 26 = 2 := by kernel_rfl
theorem s22 : Ybad.prog.cellsOf 22 = 16 := by kernel_rfl
theorem s43 : Ybad.prog.cellsOf 43 = 4 := by kernel_rfl

set_option maxHeartbeats 3200000 in
set_option maxRecDepth 100000 in
theorem from4 {w : World} {N : Nat} {p4 p6 : Addr} (z : Zs w N p4 p6) (b0 b1 b2 b3 : UInt8) :
    Calls Ybad.prog 9 #[.agg #[.int .u8 b0.toNat, .int .u8 b1.toNat, .int .u8 b2.toNat, .int .u8 b3.toNat]] w fun e w' =>
      e = .returned (.agg #[.int .u64 (0 : Nat), .int .u64 ((281470681743360 + Lib.beNat [b0, b1, b2, b3] : Nat) : Int), .pointer (some p4)]) ∧ Below w.heap.size w w' := by
  have h0 : b0.toNat < 256 := b0.toNat_lt
  have h1 : b1.toNat < 256 := b1.toNat_lt
  have h2 : b2.toNat < 256 := b2.toNat_lt
  have h3 : b3.toNat < 256 := b3.toNat_lt
  have z4 := z.z4
  have l0 : 0 < w.heap.size := by have := z.l3; have := z.le; omega
  go_enter Ybad.func9, Ybad.ntmps9
  go_wp2
  have hx : bits BinOp.or IntKind.u64 (bits BinOp.or IntKind.u64 (bits BinOp.or IntKind.u64 (bits BinOp.or IntKind.u64 281470681743360 ((b0.toNat : Int) * 16777216)) ((b1.toNat : Int) * 65536)) ((b2.toNat : Int) * 256)) (b3.toNat : Int) = ((281470681743360 + Lib.beNat [b0, b1, b2, b3] : Nat) : Int) := by
    have hv : Lib.beNat [b0, b1, b2, b3] = ((b0.toNat * 256 + b1.toNat) * 256 + b2.toNat) * 256 + b3.toNat := by simp [Lib.beNat, Lib.beFrom]
    have e1 : bits BinOp.or IntKind.u64 281470681743360 ((b0.toNat : Int) * 16777216) = 281470681743360 + (b0.toNat : Int) * 16777216 := or_at 32 (by decide) (by omega) (by omega) (by omega) (by omega) (by omega)
    have e2 : bits BinOp.or IntKind.u64 (281470681743360 + (b0.toNat : Int) * 16777216) ((b1.toNat : Int) * 65536) = 281470681743360 + (b0.toNat : Int) * 16777216 + (b1.toNat : Int) * 65536 := or_at 24 (by decide) (by omega) (by omega) (by omega) (by omega) (by omega)
    have e3 : bits BinOp.or IntKind.u64 (281470681743360 + (b0.toNat : Int) * 16777216 + (b1.toNat : Int) * 65536) ((b2.toNat : Int) * 256) = 281470681743360 + (b0.toNat : Int) * 16777216 + (b1.toNat : Int) * 65536 + (b2.toNat : Int) * 256 := or_at 16 (by decide) (by omega) (by omega) (by omega) (by omega) (by omega)
    rw [e1, e2, e3, or_at 8 (by decide) (by omega) (by omega) (by omega) (by omega) (by omega), hv]
    omega
  rw [hx]
  generalize ((281470681743360 + Lib.beNat [b0, b1, b2, b3] : Nat) : Int) = V
  exact bodyPost_ret (v := .agg #[.int .u64 (0 : Nat), .int .u64 V, .pointer (some p4)]) (by simp [results, Ybad.results9, go_sem]) rfl ⟨rfl, ((Below.refl _ _).alloc (Nat.le_refl _) _).alloc (by simp) _⟩

set_option maxHeartbeats 6400000 in
set_option maxRecDepth 100000 in
theorem from16 {w : World} {N : Nat} {p4 p6 : Addr} (z : Zs w N p4 p6) (b0 b1 b2 b3 b4 b5 b6 b7 c0 c1 c2 c3 c4 c5 c6 c7 : UInt8) :
    Calls Ybad.prog 10 #[.agg #[.int .u8 b0.toNat, .int .u8 b1.toNat, .int .u8 b2.toNat, .int .u8 b3.toNat, .int .u8 b4.toNat, .int .u8 b5.toNat, .int .u8 b6.toNat, .int .u8 b7.toNat, .int .u8 c0.toNat, .int .u8 c1.toNat, .int .u8 c2.toNat, .int .u8 c3.toNat, .int .u8 c4.toNat, .int .u8 c5.toNat, .int .u8 c6.toNat, .int .u8 c7.toNat]] w fun e w' =>
      e = .returned (.agg #[.int .u64 (Lib.beNat [b0, b1, b2, b3, b4, b5, b6, b7]), .int .u64 (Lib.beNat [c0, c1, c2, c3, c4, c5, c6, c7]), .pointer (some p6)]) ∧ Below w.heap.size w w' := by
  have z6 := z.z6
  have l0 : 1 < w.heap.size := by have := z.l3; have := z.le; omega
  go_enter Ybad.func10, Ybad.ntmps10
  go_upto_region 1 with fail
  obtain ⟨hsz, hbel, hb0, hb1⟩ := alloc2 w (Obj.cells #[Value.int .u8 b0.toNat, .int .u8 b1.toNat, .int .u8 b2.toNat, .int .u8 b3.toNat, .int .u8 b4.toNat, .int .u8 b5.toNat, .int .u8 b6.toNat, .int .u8 b7.toNat, .int .u8 c0.toNat, .int .u8 c1.toNat, .int .u8 c2.toNat, .int .u8 c3.toNat, .int .u8 c4.toNat, .int .u8 c5.toNat, .int .u8 c6.toNat, .int .u8 c7.toNat] 22) (Obj.cells #[.int .u64 0, .int .u64 0, .pointer none] 31)
  generalize (w.alloc (Obj.cells #[Value.int .u8 b0.toNat, .int .u8 b1.toNat, .int .u8 b2.toNat, .int .u8 b3.toNat, .int .u8 b4.toNat, .int .u8 b5.toNat, .int .u8 b6.toNat, .int .u8 b7.toNat, .int .u8 c0.toNat, .int .u8 c1.toNat, .int .u8 c2.toNat, .int .u8 c3.toNat, .int .u8 c4.toNat, .int .u8 c5.toNat, .int .u8 c6.toNat, .int .u8 c7.toNat] 22)).alloc (Obj.cells #[.int .u64 0, .int .u64 0, .pointer none] 31) = W at *
  have A1 : Hid (∀ W' : World, Below (w.heap.size + 2) W W' → Calls Ybad.prog 14 #[.slice (some ⟨w.heap.size, 0, none⟩) 8 16] W' fun e w' => e = .returned (.int .u64 (Lib.beNat [b0, b1, b2, b3, b4, b5, b6, b7])) ∧ Below (w.heap.size + 2) W w') := by
    intro W' h
    have hb : W'.heap[w.heap.size]? = _ := (h.block _ (by omega)).trans hb0
    have k : ∀ i, W'.cell? ⟨w.heap.size, i, none⟩ = #[Value.int .u8 b0.toNat, .int .u8 b1.toNat, .int .u8 b2.toNat, .int .u8 b3.toNat, .int .u8 b4.toNat, .int .u8 b5.toNat, .int .u8 b6.toNat, .int .u8 b7.toNat, .int .u8 c0.toNat, .int .u8 c1.toNat, .int .u8 c2.toNat, .int .u8 c3.toNat, .int .u8 c4.toNat, .int .u8 c5.toNat, .int .u8 c6.toNat, .int .u8 c7.toNat][i]? := fun i => by simp [World.cell?, hb]
    refine (get64 w.heap.size 0 8 16 b0 b1 b2 b3 b4 b5 b6 b7 W' (by decide) (k 0) (k 1) (k 2) (k 3) (k 4) (k 5) (k 6) (k 7)).mono ?_
    rintro e w1 ⟨rfl, hq⟩
    exact ⟨rfl, h.trans (hq.mono (by have := h.size; omega))⟩
  have A2 : Hid (∀ W' : World, Below (w.heap.size + 2) W W' → Calls Ybad.prog 14 #[.slice (some ⟨w.heap.size, 8, none⟩) 8 8] W' fun e w' => e = .returned (.int .u64 (Lib.beNat [c0, c1, c2, c3, c4, c5, c6, c7])) ∧ Below (w.heap.size + 2) W w') := by
    intro W' h
    have hb : W'.heap[w.heap.size]? = _ := (h.block _ (by omega)).trans hb0
    have k : ∀ i, W'.cell? ⟨w.heap.size, i, none⟩ = #[Value.int .u8 b0.toNat, .int .u8 b1.toNat, .int .u8 b2.toNat, .int .u8 b3.toNat, .int .u8 b4.toNat, .int .u8 b5.toNat, .int .u8 b6.toNat, .int .u8 b7.toNat, .int .u8 c0.toNat, .int .u8 c1.toNat, .int .u8 c2.toNat, .int .u8 c3.toNat, .int .u8 c4.toNat, .int .u8 c5.toNat, .int .u8 c6.toNat, .int .u8 c7.toNat][i]? := fun i => by simp [World.cell?, hb]
    refine (get64 w.heap.size 8 8 8 c0 c1 c2 c3 c4 c5 c6 c7 W' (by decide) (k 8) (k 9) (k 10) (k 11) (k 12) (k 13) (k 14) (k 15)).mono ?_
    rintro e w1 ⟨rfl, hq⟩
    exact ⟨rfl, h.trans (hq.mono (by have := h.size; omega))⟩
  have hW : Below (w.heap.size + 2) W W := Below.refl _ _
  have hz : W.cell? ⟨1, 0, none⟩ = some (.pointer (some p6)) := by rw [hbel.cell (by simp only; omega)]; exact z6
  clear hb0
  obtain ⟨X, hX⟩ : ∃ X, X = Lib.beNat [b0, b1, b2, b3, b4, b5, b6, b7] := ⟨_, rfl⟩
  obtain ⟨Y, hY⟩ : ∃ Y, Y = Lib.beNat [c0, c1, c2, c3, c4, c5, c6, c7] := ⟨_, rfl⟩
  rw [← hX] at A1
  rw [← hY] at A2
  have HX := hide hX
  have HY := hide hY
  clear hX hY
  have S0 : ∀ W' : World, Below (w.heap.size + 2) W W' → W'.cell? ⟨1, 0, none⟩ = some (.pointer (some p6)) ∧ W'.cell? ⟨w.heap.size + 1, 0, none⟩ = some (.int .u64 0) ∧ W'.cell? ⟨w.heap.size + 1, 1, none⟩ = some (.int .u64 0) ∧ W'.cell? ⟨w.heap.size + 1, 2, none⟩ = some (.pointer none) ∧ (∀ i, W'.frozen? ⟨w.heap.size + 1, i, none⟩ = false) := by
    intro W' h
    have hb : W'.heap[w.heap.size + 1]? = _ := (h.block _ (by omega)).trans hb1
    refine ⟨?_, ?_, ?_, ?_, ?_⟩
    · rw [h.cell (by simp only; omega)]; exact hz
    · simp [World.cell?, hb]
    · simp [World.cell?, hb]
    · simp [World.cell?, hb]
    · intro i; simp [World.frozen?, hb]
  obtain ⟨y1, y2, y3, y4, y5⟩ := S0 W hW
  have HS := hide S0
  clear S0 hb1 z
  generalize Value.agg #[Value.int .u8 b0.toNat, .int .u8 b1.toNat, .int .u8 b2.toNat, .int .u8 b3.toNat, .int .u8 b4.toNat, .int .u8 b5.toNat, .int .u8 b6.toNat, .int .u8 b7.toNat, .int .u8 c0.toNat, .int .u8 c1.toNat, .int .u8 c2.toNat, .int .u8 c3.toNat, .int .u8 c4.toNat, .int .u8 c5.toNat, .int .u8 c6.toNat, .int .u8 c7.toNat] = V0
  have hu : (1 : Nat) ≠ w.heap.size + 1 := by omega
  have AA : Hid (∀ (W' : World) (o c : Nat), Below (w.heap.size + 2) W W' → (o = 0 ∧ c = 16 ∨ o = 8 ∧ c = 8) → Calls Ybad.prog 14 #[.slice (some ⟨w.heap.size, o, none⟩) 8 c] W' fun e w' => e = .returned (.int .u64 (if o = 0 then (X : Int) else Y)) ∧ Below (w.heap.size + 2) W w') := by
    rintro W' o c h (⟨rfl, rfl⟩ | ⟨rfl, rfl⟩)
    · exact A1.out W' h
    · exact A2.out W' h
  clear A1 A2
  go_region_held3 (fun w' => w'.cell? ⟨1, 0, none⟩ = some (.pointer (some p6))) (first | assumption | (rw [World.cell?_setCell_far _ _ _ _ (by simp only; omega), World.cell?_setCell_far _ _ _ _ (by simp only; omega), World.cell?_setCell_far _ _ _ _ (by simp only; omega)]; assumption))
    (first | (go_at_call 14; refine (AA.out _ _ _ (by first | assumption | exact Below.drew (by assumption)) (by first | exact .inl ⟨rfl, rfl⟩ | exact .inr ⟨rfl, rfl⟩)).mono ?_; rintro e w1 ⟨rfl, hq⟩; (first | rw [if_pos rfl] | rw [if_neg (by decide)]); obtain ⟨y1, y2, y3, y4, y5⟩ := HS.out _ hq))
  obtain ⟨r0, r1, r2⟩ := three (x := .int .u64 X) (y := .int .u64 Y) (z := .pointer (some p6)) y2 y3 y4
  have hB : Below w.heap.size w (((w1.setCell ⟨w.heap.size + 1, 0, none⟩ (.int .u64 X)).setCell ⟨w.heap.size + 1, 1, none⟩ (.int .u64 Y)).setCell ⟨w.heap.size + 1, 2, none⟩ (.pointer (some p6))) :=
    (((hbel.trans (hq.mono (by omega))).setCell (by simp) _).setCell (by simp) _).setCell (by simp) _
  generalize ((w1.setCell ⟨w.heap.size + 1, 0, none⟩ (.int .u64 X)).setCell ⟨w.heap.size + 1, 1, none⟩ (.int .u64 Y)).setCell ⟨w.heap.size + 1, 2, none⟩ (.pointer (some p6)) = W3 at *
  clear y1 y2 y3 y4 y5 hq AA HS
  go_wp2
  exact bodyPost_ret (v := .agg #[.int .u64 X, .int .u64 Y, .pointer (some p6)]) (by simp [results, Ybad.results10, go_sem, r0, r1, r2]) rfl ⟨by rw [HX.out, HY.out], hB⟩
end Go.Proofs.YbulkdcggDoor
