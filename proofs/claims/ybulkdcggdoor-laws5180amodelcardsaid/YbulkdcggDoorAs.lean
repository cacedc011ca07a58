/-
  THE WALK of AsSlice.
-/
import Derived.Test.YbulkdcggDoorAddr
namespace Go.Proofs.YbulkdcggDoor
open Go.RowKit

theorem size_setCells (g : Nat) : ∀ (vs : List Value) (o : Nat) (w : World), (w.setCells g o vs).heap.size = w.heap.size
  | [], _, _ => rfl
  | v :: vs, o, w => by rw [World.setCells, size_setCells g vs]; simp [World.setCell]
/-- block g holds the bytes l from its first cell on, and may be written -/
structure Buf (w : World) (g : Nat) (l : List UInt8) : Prop where
  cell : ∀ j (hj : j < l.length), w.cell? ⟨g, j, none⟩ = some (.int .u8 (l[j]).toNat)
  free : ∀ i, w.frozen? ⟨g, i, none⟩ = false
theorem Buf.at {w : World} {g : Nat} {l : List UInt8} (h : Buf w g l) {j : Nat} {b : UInt8} (e : l[j]? = some b) : w.cell? ⟨g, j, none⟩ = some (.int .u8 b.toNat) := by
  obtain ⟨hj, rfl⟩ := List.getElem?_eq_some_iff.1 e
  exact h.cell j hj
theorem Buf.of_block {w W : World} {g : Nat} {l : List UInt8} (h : Buf w g l) (e : W.heap[g]? = w.heap[g]?) : Buf W g l :=
  ⟨fun j hj => by rw [World.cell?_of_block (w := w) e]; exact h.cell j hj, fun i => by rw [World.frozen?_of_block (w := w) e]; exact h.free i⟩
theorem Buf.put {w : World} {g : Nat} {a b c b' : List UInt8} (h : Buf w g (a ++ (b ++ c))) (e : b'.length = b.length) : Buf (w.setCells g a.length (Lib.byteCells b')) g (a ++ (b' ++ c)) := by
  refine ⟨fun j hj => ?_, fun i => (World.frozen?_setCells _ _ _ _ _).trans (h.free i)⟩
  simp only [List.length_append] at hj
  by_cases h1 : j < a.length
  · rw [World.cell?_setCells_out _ _ _ _ _ (fun _ _ => .inl h1), h.cell j (by simp; omega)]
    simp [h1]
  · by_cases h2 : j < a.length + b'.length
    · have := World.cell?_setCells_in g (Lib.byteCells b') a.length w (fun i hi => by
        rw [Lib.byteCells_length] at hi
        rw [h.cell (a.length + i) (by simp; omega)]; rfl) (j - a.length) (by rw [Lib.byteCells_length]; omega)
      rw [show a.length + (j - a.length) = j by omega] at this
      rw [this]
      simp [List.getElem_append, h1, Lib.byteCells, show j - a.length < b'.length by omega]
    · rw [World.cell?_setCells_out _ _ _ _ _ (fun _ _ => .inr (by rw [Lib.byteCells_length]; simp only; omega)), h.cell j (by simp; omega)]
      simp [List.getElem_append, h1, show ¬ j - a.length < b.length by omega, e]
theorem Buf.slice {w : World} {g N : Nat} {l : List UInt8} (h : Buf w g l) (hg : g < N) (hm : l.length ≤ maxLen) : SliceIs w N (.slice (some ⟨g, 0, none⟩) l.length l.length) l :=
  ⟨_, _, rfl, Nat.le_refl _, hm, fun _ => ⟨g, 0, rfl, hg, fun j hj => by rw [Nat.zero_add]; exact h.cell j hj⟩⟩
theorem Buf.fresh {w : World} {g : Nat} {l : List UInt8} {t : TypeId} (h : w.heap[g]? = some (.cells (Lib.byteCells l).toArray t (0, 0))) : Buf w g l :=
  ⟨fun j hj => by simp [World.cell?, h, Lib.byteCells, hj], fun i => by simp [World.frozen?, h]⟩

set_option maxHeartbeats 3200000 in
set_option maxRecDepth 100000 in
theorem as_nil {w : World} {N : Nat} {p4 p6 : Addr} (z : Zs w N p4 p6) :
    Calls Ybad.prog 12 #[.agg #[.int .u64 0, .int .u64 0, .pointer none]] w fun e w' => e = .returned (.slice none 0 0) ∧ Below w.heap.size w w' := by
  have z4 := z.z4
  have z0 := z.z0
  have l0 : 3 < w.heap.size := by have := z.l3; have := z.le; omega
  have q : ∀ W : World, (binOp .eql 29 (.agg #[.pointer none]) (.agg #[.pointer none])).run Ybad.prog W = .ok (.bool true) W := fun W => handle_eq (ptr_nil W none)
  have q' := fun W => ptr_nil W none
  go_enter Ybad.func12, Ybad.ntmps12
  go_wp2
  go_ret
  exact ⟨rfl, (Below.refl _ _).alloc (Nat.le_refl _) _⟩

set_option maxHeartbeats 3200000 in
set_option maxRecDepth 100000 in
theorem as_four {w : World} {N : Nat} {p4 p6 : Addr} (z : Zs w N p4 p6) (hi lo : Nat) :
    Calls Ybad.prog 12 #[.agg #[.int .u64 hi, .int .u64 lo, .pointer (some p4)]] w fun e w' => ∃ v, e = .returned v ∧ SliceIs w' w'.heap.size v (Lib.beBytes 4 (lo % 4294967296)) ∧ Below w.heap.size w w' := by
  have z4 := z.z4
  have z0 := z.z0
  have l0 : 3 < w.heap.size := by have := z.l3; have := z.le; omega
  have l1 : 0 < w.heap.size := by omega
  have q : ∀ W : World, (binOp .eql 29 (.agg #[.pointer (some p4)]) (.agg #[.pointer none])).run Ybad.prog W = .ok (.bool false) W := fun W => handle_eq (ptr_nil W (some p4))
  have q' := fun W => ptr_nil W (some p4)
  have r : ∀ W : World, (binOp .eql 29 (.agg #[.pointer (some p4)]) (.agg #[.pointer (some p4)])).run Ybad.prog W = .ok (.bool true) W := fun W => handle_eq (ptr_same W p4)
  have r' := fun W => ptr_same W p4
  go_enter Ybad.func12, Ybad.ntmps12
  go_upto_region 10 with fail
  obtain ⟨hsz, hbel, hb0, hb1⟩ := alloc2 w (Obj.cells #[.int .u64 hi, .int .u64 lo, .pointer (some p4)] 31) (Obj.cells #[.int .u8 0, .int .u8 0, .int .u8 0, .int .u8 0] 43)
  generalize (w.alloc (Obj.cells #[.int .u64 hi, .int .u64 lo, .pointer (some p4)] 31)).alloc (Obj.cells #[.int .u8 0, .int .u8 0, .int .u8 0, .int .u8 0] 43) = W at *
  have B0 : Buf W (w.heap.size + 1) [0, 0, 0, 0] := Buf.fresh hb1
  have k1 : W.cell? ⟨w.heap.size, 1, none⟩ = some (.int .u64 lo) := by simp [World.cell?, hb0]
  have AA : Hid (∀ x : Int, x = IntKind.u32.wrap lo → Calls Ybad.prog 16 #[.slice (some ⟨w.heap.size + 1, 0, none⟩) 4 4, .int .u32 x] W.drew fun e w' => e = .returned (.tuple #[]) ∧ w'.cell? ⟨w.heap.size, 1, none⟩ = some (.int .u64 lo) ∧ Hid (Buf w' (w.heap.size + 1) (Lib.beBytes 4 (lo % 4294967296)) ∧ w'.heap.size = w.heap.size + 2 ∧ Below w.heap.size w w')) := by
    intro x hx
    have hx' : x = ((lo % 4294967296 : Nat) : Int) := by rw [hx, IntKind.wrap_u32]; omega
    subst hx'
    have B1 : Buf W.drew (w.heap.size + 1) [0, 0, 0, 0] := B0.of_block rfl
    refine (put32 (w.heap.size + 1) 0 4 4 (lo % 4294967296) (by omega) _ _ _ _ W.drew (by decide) (B1.at rfl) (B1.at rfl) (B1.at rfl) (B1.at rfl) (B1.free _) (B1.free _) (B1.free _) (B1.free _)).mono ?_
    rintro e w' ⟨rfl, rfl⟩
    have hle : (Lib.beBytes 4 (lo % 4294967296)).length = ([0, 0, 0, 0] : List UInt8).length := Lib.beBytes_length _ _
    have B2 := Buf.put (a := []) (b := [0, 0, 0, 0]) (c := []) B1 hle
    have hB := Lib.below_setCells_w (B := w.heap.size + 1) (Nat.le_refl _) (Lib.byteCells (Lib.beBytes 4 (lo % 4294967296))) 0 W.drew
    refine ⟨rfl, ?_, ?_, ?_, ?_⟩
    · rw [hB.cell (by simp)]; exact k1
    · simpa using B2
    · rw [size_setCells]; exact hsz
    · exact (hbel.drew).trans (hB.mono (by omega))
  clear hb0 hb1 B0 hbel
  go_region_held3 (fun w' => w'.cell? ⟨w.heap.size, 1, none⟩ = some (.int .u64 lo)) (first | assumption)
    (first | (go_at_call 16; refine (AA.out _ (by first | rfl | (rw [IntKind.wrap_u32]))).mono ?_; rintro e w1 ⟨rfl, y1, y2⟩))
  go_wp2
  go_ret
  obtain ⟨y3, y4, y5⟩ := y2.out
  exact ⟨_, rfl, Buf.slice y3 (by omega) (by rw [Lib.beBytes_length]; decide), y5⟩

set_option maxHeartbeats 6400000 in
set_option maxRecDepth 100000 in
theorem as_sixteen {w : World} {N : Nat} {p4 p6 : Addr} (z : Zs w N p4 p6) (hi lo : Nat) (hhi : hi < 18446744073709551616) (hlo : lo < 18446744073709551616) :
    Calls Ybad.prog 12 #[.agg #[.int .u64 hi, .int .u64 lo, .pointer (some p6)]] w fun e w' => ∃ v, e = .returned v ∧ SliceIs w' w'.heap.size v (Lib.beBytes 8 hi ++ Lib.beBytes 8 lo) ∧ Below w.heap.size w w' := by
  have z4 := z.z4
  have z0 := z.z0
  have l0 : 3 < w.heap.size := by have := z.l3; have := z.le; omega
  have l1 : 0 < w.heap.size := by omega
  have q : ∀ W : World, (binOp .eql 29 (.agg #[.pointer (some p6)]) (.agg #[.pointer none])).run Ybad.prog W = .ok (.bool false) W := fun W => handle_eq (ptr_nil W (some p6))
  have q' := fun W => ptr_nil W (some p6)
  have r : (binOp .eql 29 (.agg #[.pointer (some p6)]) (.agg #[.pointer (some p4)])).run Ybad.prog (w.alloc (Obj.cells #[.int .u64 hi, .int .u64 lo, .pointer (some p6)] 31)) = .ok (.bool false) (w.alloc (Obj.cells #[.int .u64 hi, .int .u64 lo, .pointer (some p6)] 31)) :=
    (z.up (fun b hb => Below.heap_alloc _ _ _ (by have := z.le; omega)) (by simp)).eq4
  have r' : ∀ d, (Op.equalIn (d + 1) 27 (.pointer (some p6)) (.pointer (some p4))).run Ybad.prog (w.alloc (Obj.cells #[.int .u64 hi, .int .u64 lo, .pointer (some p6)] 31)) = .ok false (w.alloc (Obj.cells #[.int .u64 hi, .int .u64 lo, .pointer (some p6)] 31)) := by
    have z' := z.up (W := w.alloc (Obj.cells #[.int .u64 hi, .int .u64 lo, .pointer (some p6)] 31)) (fun b hb => Below.heap_alloc _ _ _ (by have := z.le; omega)) (by simp)
    obtain ⟨c, t, h5⟩ := z'.b4
    obtain ⟨c', t', h6⟩ := z'.b6
    exact ptr_other _ (fun e => z.ne e.symm) h6 h5
  go_enter Ybad.func12, Ybad.ntmps12
  go_upto_region 3 with fail
  obtain ⟨hsz, hbel, hb0, hb1⟩ := alloc2 w (Obj.cells #[.int .u64 hi, .int .u64 lo, .pointer (some p6)] 31) (Obj.cells #[.int .u8 0, .int .u8 0, .int .u8 0, .int .u8 0, .int .u8 0, .int .u8 0, .int .u8 0, .int .u8 0, .int .u8 0, .int .u8 0, .int .u8 0, .int .u8 0, .int .u8 0, .int .u8 0, .int .u8 0, .int .u8 0] 22)
  generalize (w.alloc (Obj.cells #[.int .u64 hi, .int .u64 lo, .pointer (some p6)] 31)).alloc (Obj.cells #[.int .u8 0, .int .u8 0, .int .u8 0, .int .u8 0, .int .u8 0, .int .u8 0, .int .u8 0, .int .u8 0, .int .u8 0, .int .u8 0, .int .u8 0, .int .u8 0, .int .u8 0, .int .u8 0, .int .u8 0, .int .u8 0] 22) = W at *
  have B0 : Buf W (w.heap.size + 1) ([0, 0, 0, 0, 0, 0, 0, 0] ++ [0, 0, 0, 0, 0, 0, 0, 0]) := Buf.fresh hb1
  have k0 : W.cell? ⟨w.heap.size, 0, none⟩ = some (.int .u64 hi) := by simp [World.cell?, hb0]
  have k1 : W.cell? ⟨w.heap.size, 1, none⟩ = some (.int .u64 lo) := by simp [World.cell?, hb0]
  have A1 : Hid (Calls Ybad.prog 17 #[.slice (some ⟨w.heap.size + 1, 0, none⟩) 8 16, .int .u64 hi] W.drew fun e w' => e = .returned (.tuple #[]) ∧ w'.cell? ⟨w.heap.size, 0, none⟩ = some (.int .u64 hi) ∧ w'.cell? ⟨w.heap.size, 1, none⟩ = some (.int .u64 lo) ∧ Hid (Buf w' (w.heap.size + 1) (Lib.beBytes 8 hi ++ [0, 0, 0, 0, 0, 0, 0, 0]) ∧ w'.heap.size = w.heap.size + 2 ∧ Below w.heap.size w w')) := by
    have B1 : Buf W.drew (w.heap.size + 1) ([0, 0, 0, 0, 0, 0, 0, 0] ++ [0, 0, 0, 0, 0, 0, 0, 0]) := B0.of_block rfl
    refine (put64 (w.heap.size + 1) 0 8 16 hi hhi _ _ _ _ _ _ _ _ W.drew (by decide) (B1.at rfl) (B1.at rfl) (B1.at rfl) (B1.at rfl) (B1.at rfl) (B1.at rfl) (B1.at rfl) (B1.at rfl) (B1.free _) (B1.free _) (B1.free _) (B1.free _) (B1.free _) (B1.free _) (B1.free _) (B1.free _)).mono ?_
    rintro e w' ⟨rfl, rfl⟩
    have hle : (Lib.beBytes 8 hi).length = ([0, 0, 0, 0, 0, 0, 0, 0] : List UInt8).length := Lib.beBytes_length _ _
    have B2 := Buf.put (a := []) (b := [0, 0, 0, 0, 0, 0, 0, 0]) (c := [0, 0, 0, 0, 0, 0, 0, 0]) B1 hle
    have hB := Lib.below_setCells_w (B := w.heap.size + 1) (Nat.le_refl _) (Lib.byteCells (Lib.beBytes 8 hi)) 0 W.drew
    refine ⟨rfl, ?_, ?_, ?_, ?_, ?_⟩
    · rw [hB.cell (by simp)]; exact k0
    · rw [hB.cell (by simp)]; exact k1
    · exact B2
    · rw [size_setCells]; exact hsz
    · exact (hbel.drew).trans (hB.mono (by omega))
  have A2 : Hid (∀ W1 : World, W1.cell? ⟨w.heap.size, 0, none⟩ = some (.int .u64 hi) → W1.cell? ⟨w.heap.size, 1, none⟩ = some (.int .u64 lo) → Buf W1 (w.heap.size + 1) (Lib.beBytes 8 hi ++ [0, 0, 0, 0, 0, 0, 0, 0]) ∧ W1.heap.size = w.heap.size + 2 ∧ Below w.heap.size w W1 → Calls Ybad.prog 17 #[.slice (some ⟨w.heap.size + 1, 8, none⟩) 8 8, .int .u64 lo] W1.drew fun e w' => e = .returned (.tuple #[]) ∧ w'.cell? ⟨w.heap.size, 1, none⟩ = some (.int .u64 lo) ∧ Hid (Buf w' (w.heap.size + 1) (Lib.beBytes 8 hi ++ Lib.beBytes 8 lo) ∧ w'.heap.size = w.heap.size + 2 ∧ Below w.heap.size w w')) := by
    rintro W1 j0 j1 ⟨B1', hs1, hb1'⟩
    have B1 : Buf W1.drew (w.heap.size + 1) (Lib.beBytes 8 hi ++ [0, 0, 0, 0, 0, 0, 0, 0]) := B1'.of_block rfl
    have hl8 : (Lib.beBytes 8 hi).length = 8 := Lib.beBytes_length _ _
    have g : ∀ i, i < 8 → W1.drew.cell? ⟨w.heap.size + 1, 8 + i, none⟩ = some (.int .u8 ((0 : UInt8).toNat)) := fun i hi8 => B1.at (by
      rw [List.getElem?_append_right (by omega), hl8, show 8 + i - 8 = i by omega]
      have : i = 0 ∨ i = 1 ∨ i = 2 ∨ i = 3 ∨ i = 4 ∨ i = 5 ∨ i = 6 ∨ i = 7 := by omega
      rcases this with rfl | rfl | rfl | rfl | rfl | rfl | rfl | rfl <;> rfl)
    refine (put64 (w.heap.size + 1) 8 8 8 lo hlo _ _ _ _ _ _ _ _ W1.drew (by decide) (g 0 (by decide)) (g 1 (by decide)) (g 2 (by decide)) (g 3 (by decide)) (g 4 (by decide)) (g 5 (by decide)) (g 6 (by decide)) (g 7 (by decide)) (B1.free _) (B1.free _) (B1.free _) (B1.free _) (B1.free _) (B1.free _) (B1.free _) (B1.free _)).mono ?_
    rintro e w' ⟨rfl, rfl⟩
    have hle : (Lib.beBytes 8 lo).length = ([0, 0, 0, 0, 0, 0, 0, 0] : List UInt8).length := Lib.beBytes_length _ _
    have B2 := Buf.put (a := Lib.beBytes 8 hi) (b := [0, 0, 0, 0, 0, 0, 0, 0]) (c := []) B1 hle
    rw [hl8] at B2
    have hB := Lib.below_setCells_w (B := w.heap.size + 1) (Nat.le_refl _) (Lib.byteCells (Lib.beBytes 8 lo)) 8 W1.drew
    refine ⟨rfl, ?_, ?_, ?_, ?_⟩
    · rw [hB.cell (by simp)]; exact j1
    · simpa using B2
    · rw [size_setCells]; exact hs1
    · exact (hb1'.drew).trans (hB.mono (by omega))
  clear hb0 hb1 B0 hbel r r' z
  go_region_held3 (fun w' => w'.cell? ⟨w.heap.size, 0, none⟩ = some (.int .u64 hi)) (first | assumption)
    (first | (go_at_call 17; refine A1.out.mono ?_; rintro e w1 ⟨rfl, y0, y1, y2⟩))
  go_upto_region 4 with fail
  have A3 := hide (A2.out w1 y0 y1 y2.out)
  clear A1 A2 y2
  go_region_held3 (fun w' => w'.cell? ⟨w.heap.size, 1, none⟩ = some (.int .u64 lo)) (first | assumption)
    (first | (go_at_call 17; refine A3.out.mono ?_; rintro e w2 ⟨rfl, x1, x2⟩))
  go_wp2
  go_ret
  obtain ⟨y3, y4, y5⟩ := x2.out
  have q := Buf.slice y3 (N := w2.heap.size) (by omega) (by simp [Lib.beBytes_length]; decide)
  rw [show (Lib.beBytes 8 hi ++ Lib.beBytes 8 lo).length = 16 by simp [Lib.beBytes_length]] at q
  exact ⟨_, rfl, q, y5⟩
end Go.Proofs.YbulkdcggDoor
