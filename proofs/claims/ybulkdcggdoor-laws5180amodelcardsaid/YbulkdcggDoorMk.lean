/-
  THE WALK of zzs5180aaddr.
-/
import Derived.Test.YbulkdcggDoorUdp
import Derived.Laws.CopyOwn
import Derived.OwnWalk
import Derived.Deep.OwnRows
import Derived.Laws.OwnMore
namespace Go.Proofs.YbulkdcggDoor
open Go.RowKit

/-- the array of 16 bytes, as a value -/
def arr16 (b0 b1 b2 b3 b4 b5 b6 b7 c0 c1 c2 c3 c4 c5 c6 c7 : UInt8) : Value :=
  .agg #[.int .u8 b0.toNat, .int .u8 b1.toNat, .int .u8 b2.toNat, .int .u8 b3.toNat, .int .u8 b4.toNat, .int .u8 b5.toNat, .int .u8 b6.toNat, .int .u8 b7.toNat, .int .u8 c0.toNat, .int .u8 c1.toNat, .int .u8 c2.toNat, .int .u8 c3.toNat, .int .u8 c4.toNat, .int .u8 c5.toNat, .int .u8 c6.toNat, .int .u8 c7.toNat]
/-- what zzs5180aaddr leaves -/
def Made (p4 p6 : Addr) (w : World) (e : Ending) (w' : World) : Prop :=
  ∃ hi lo z sv l, e = .returned (.tuple #[.agg #[.int .u64 ((hi : Nat) : Int), .int .u64 ((lo : Nat) : Int), .pointer z], sv]) ∧ AddrIs p4 p6 hi lo z l ∧ SliceIs w' w'.heap.size sv l ∧ Below w.heap.size w w'

set_option maxHeartbeats 6400000 in
set_option maxRecDepth 100000 in
theorem mk_none {w : World} {p4 p6 : Addr} (k : Nat) (hk : k < 256) (h0 : k % 3 = 0) (b0 b1 b2 b3 b4 b5 b6 b7 c0 c1 c2 c3 c4 c5 c6 c7 : UInt8) :
    Calls Ybad.prog 5 #[.int .u8 k, arr16 b0 b1 b2 b3 b4 b5 b6 b7 c0 c1 c2 c3 c4 c5 c6 c7] w (Made p4 p6 w) := by
  have q0 : (k : Int) % 3 = 0 := by omega
  have q1 : (k : Int).tmod 3 = 0 := by rw [Int.tmod_eq_emod_of_nonneg (by omega)]; omega
  unfold arr16
  go_enter Ybad.func5, Ybad.ntmps5
  go_wp2_with fail
  obtain ⟨hsz, hbel, hb0, hb1⟩ := alloc2 w (Obj.cells #[.int .u8 b0.toNat, .int .u8 b1.toNat, .int .u8 b2.toNat, .int .u8 b3.toNat, .int .u8 b4.toNat, .int .u8 b5.toNat, .int .u8 b6.toNat, .int .u8 b7.toNat, .int .u8 c0.toNat, .int .u8 c1.toNat, .int .u8 c2.toNat, .int .u8 c3.toNat, .int .u8 c4.toNat, .int .u8 c5.toNat, .int .u8 c6.toNat, .int .u8 c7.toNat] 22) (Obj.cells #[.int .u64 0, .int .u64 0, .pointer none] 31)
  generalize (w.alloc (Obj.cells #[.int .u8 b0.toNat, .int .u8 b1.toNat, .int .u8 b2.toNat, .int .u8 b3.toNat, .int .u8 b4.toNat, .int .u8 b5.toNat, .int .u8 b6.toNat, .int .u8 b7.toNat, .int .u8 c0.toNat, .int .u8 c1.toNat, .int .u8 c2.toNat, .int .u8 c3.toNat, .int .u8 c4.toNat, .int .u8 c5.toNat, .int .u8 c6.toNat, .int .u8 c7.toNat] 22)).alloc (Obj.cells #[.int .u64 0, .int .u64 0, .pointer none] 31) = W at *
  have r0 : W.cell? ⟨w.heap.size + 1, 0, none⟩ = some (.int .u64 0) := by simp [World.cell?, hb1]
  have r1 : W.cell? ⟨w.heap.size + 1, 1, none⟩ = some (.int .u64 0) := by simp [World.cell?, hb1]
  have r2 : W.cell? ⟨w.heap.size + 1, 2, none⟩ = some (.pointer none) := by simp [World.cell?, hb1]
  exact bodyPost_ret (v := .tuple #[.agg #[.int .u64 0, .int .u64 0, .pointer none], .slice none 0 0]) (by simp [results, Ybad.results5, go_sem, r0, r1, r2]) rfl ⟨0, 0, none, _, [], rfl, .inl ⟨rfl, rfl, rfl, rfl⟩, ⟨none, 0, rfl, Nat.le_refl _, by decide, fun h => absurd rfl h⟩, hbel⟩

/-- what the statement of the second case may lean on: b in block n, a4 in block n + 2, the result in block n + 1 -/
structure Four (w W : World) (b0 b1 b2 b3 : UInt8) : Prop where
  bel : Below w.heap.size w W
  sz : w.heap.size + 3 ≤ W.heap.size
  k : ∀ i, i < 4 → W.cell? ⟨w.heap.size, i, none⟩ = #[Value.int .u8 b0.toNat, .int .u8 b1.toNat, .int .u8 b2.toNat, .int .u8 b3.toNat][i]?
  m : ∀ i, i < 4 → W.cell? ⟨w.heap.size + 2, i, none⟩ = #[Value.int .u8 b0.toNat, .int .u8 b1.toNat, .int .u8 b2.toNat, .int .u8 b3.toNat][i]?
  r : ∀ i, i < 3 → ∃ u, W.cell? ⟨w.heap.size + 1, i, none⟩ = some u
  f : ∀ i, W.frozen? ⟨w.heap.size + 1, i, none⟩ = false
section
variable {w W : World} {b0 b1 b2 b3 : UInt8}
theorem Four.below (h : Four w W b0 b1 b2 b3) {W' : World} (hb : Below W.heap.size W W') : Four w W' b0 b1 b2 b3 := by
  obtain ⟨h1, h2, h3, h4, h5, h6⟩ := h
  refine ⟨h1.trans (hb.mono h1.size), Nat.le_trans h2 hb.size, fun i hi => ?_, fun i hi => ?_, fun i hi => ?_, fun i => ?_⟩
  · rw [hb.cell (by simp only; omega)]; exact h3 i hi
  · rw [hb.cell (by simp only; omega)]; exact h4 i hi
  · rw [hb.cell (by simp only; omega)]; exact h5 i hi
  · rw [hb.frozen (by simp only; omega)]; exact h6 i
theorem Four.drew (h : Four w W b0 b1 b2 b3) : Four w W.drew b0 b1 b2 b3 := h.below (Below.refl _ _).drew
theorem Four.alloc (h : Four w W b0 b1 b2 b3) (o : Obj) : Four w (W.alloc o) b0 b1 b2 b3 := h.below ((Below.refl _ _).alloc (Nat.le_refl _) o)
theorem Four.set (h : Four w W b0 b1 b2 b3) (i : Nat) (v : Value) : Four w (W.setCell ⟨w.heap.size + 1, i, none⟩ v) b0 b1 b2 b3 := by
  obtain ⟨h1, h2, h3, h4, h5, h6⟩ := h
  refine ⟨h1.setCell (by simp) v, by simpa [World.setCell] using h2, fun j hj => ?_, fun j hj => ?_, fun j hj => ?_, fun j => ?_⟩
  · rw [World.cell?_setCell_far _ _ _ _ (by simp)]; exact h3 j hj
  · rw [World.cell?_setCell_far _ _ _ _ (by simp)]; exact h4 j hj
  · obtain ⟨u, hu⟩ := h5 j hj
    by_cases e : i = j
    · subst e
      exact ⟨v, by apply World.cell?_setCell_same; exact hu⟩
    · exact ⟨u, by rw [← hu]; apply World.cell?_setCell_other; intro q; exact e (congrArg Addr.off q)⟩
  · rw [World.frozen?_setCell]; exact h6 j
/-- the cells that the loads read -/
def FourCells (n : Nat) (b0 b1 b2 b3 : UInt8) (W : World) : Prop :=
  W.cell? ⟨n, 0, none⟩ = some (.int .u8 b0.toNat) ∧ W.cell? ⟨n, 1, none⟩ = some (.int .u8 b1.toNat) ∧ W.cell? ⟨n, 2, none⟩ = some (.int .u8 b2.toNat) ∧ W.cell? ⟨n, 3, none⟩ = some (.int .u8 b3.toNat) ∧
  W.cell? ⟨n + 2, 0, none⟩ = some (.int .u8 b0.toNat) ∧ W.cell? ⟨n + 2, 1, none⟩ = some (.int .u8 b1.toNat) ∧ W.cell? ⟨n + 2, 2, none⟩ = some (.int .u8 b2.toNat) ∧ W.cell? ⟨n + 2, 3, none⟩ = some (.int .u8 b3.toNat)
theorem Four.cells (h : Four w W b0 b1 b2 b3) : FourCells w.heap.size b0 b1 b2 b3 W :=
  ⟨h.k 0 (by decide), h.k 1 (by decide), h.k 2 (by decide), h.k 3 (by decide), h.m 0 (by decide), h.m 1 (by decide), h.m 2 (by decide), h.m 3 (by decide)⟩
end
theorem alloc3 (w : World) (o1 o2 o3 : Obj) : (((w.alloc o1).alloc o2).alloc o3).heap.size = w.heap.size + 3 ∧ Below w.heap.size w (((w.alloc o1).alloc o2).alloc o3) ∧ (((w.alloc o1).alloc o2).alloc o3).heap[w.heap.size]? = some o1 ∧ (((w.alloc o1).alloc o2).alloc o3).heap[w.heap.size + 1]? = some o2 ∧ (((w.alloc o1).alloc o2).alloc o3).heap[w.heap.size + 2]? = some o3 := by
  obtain ⟨h1, h2, h3, h4⟩ := alloc2 w o1 o2
  refine ⟨by simp, h2.alloc (by omega) _, ?_, ?_, ?_⟩
  · rw [Below.heap_alloc _ _ _ (by omega)]; exact h3
  · rw [Below.heap_alloc _ _ _ (by omega)]; exact h4
  · show (((w.alloc o1).alloc o2).heap.push o3)[w.heap.size + 2]? = some o3
    rw [← h1]
    exact Array.getElem?_push_size

theorem leBytes_leNat : ∀ (l : List UInt8), Lib.leBytes l.length (Lib.leNat l) = l
  | [] => rfl
  | b :: r => by
    have h := b.toNat_lt
    simp only [List.length_cons, Lib.leBytes, Lib.leNat]
    rw [show (b.toNat + 256 * Lib.leNat r) % 256 = b.toNat by omega, show (b.toNat + 256 * Lib.leNat r) / 256 = Lib.leNat r by omega, leBytes_leNat r]
    simp
theorem le_lt : ∀ l : List UInt8, Lib.leNat l < 256 ^ l.length
  | [] => by simp [Lib.leNat]
  | b :: r => by
    have h := b.toNat_lt
    have ih := le_lt r
    simp only [Lib.leNat, List.length_cons, Nat.pow_succ]
    omega
theorem be_lt (l : List UInt8) : Lib.beNat l < 256 ^ l.length := by
  rw [Lib.beNat_eq, ← List.length_reverse]
  exact le_lt _
theorem beBytes_beNat (l : List UInt8) (k : Nat) (h : l.length = k) : Lib.beBytes k (Lib.beNat l) = l := by
  subst h
  rw [Lib.beBytes, Lib.beNat_eq, ← List.length_reverse, leBytes_leNat, List.reverse_reverse]
theorem four_bytes (b0 b1 b2 b3 : UInt8) : Lib.beBytes 4 ((281470681743360 + Lib.beNat [b0, b1, b2, b3]) % 4294967296) = [b0, b1, b2, b3] := by
  have h0 := b0.toNat_lt
  have h1 := b1.toNat_lt
  have h2 := b2.toNat_lt
  have h3 := b3.toNat_lt
  have hv : Lib.beNat [b0, b1, b2, b3] = ((b0.toNat * 256 + b1.toNat) * 256 + b2.toNat) * 256 + b3.toNat := by simp [Lib.beNat, Lib.beFrom]
  rw [show (281470681743360 + Lib.beNat [b0, b1, b2, b3]) % 4294967296 = Lib.beNat [b0, b1, b2, b3] by omega]
  exact beBytes_beNat _ 4 rfl

/-- the second case's end -/
theorem four_end {w W : World} {p4 p6 : Addr} {b0 b1 b2 b3 : UInt8} {g L : Nat} (hL : L = 281470681743360 + Lib.beNat [b0, b1, b2, b3]) (hb : Below w.heap.size w W) (hg : g < W.heap.size) (B : Buf W g [b0, b1, b2, b3]) :
    Made p4 p6 w (.returned (.tuple #[.agg #[.int .u64 0, .int .u64 L, .pointer (some p4)], .slice (some ⟨g, 0, none⟩) 4 4])) W :=
  ⟨0, L, some p4, _, [b0, b1, b2, b3], rfl, .inr (.inl ⟨rfl, by rw [hL, four_bytes]⟩), B.slice hg (by simp [maxLen]), hb⟩

set_option maxHeartbeats 6400000 in
set_option maxRecDepth 100000 in
theorem mk_four {w : World} {N : Nat} {p4 p6 : Addr} (zs : Zs w N p4 p6) (k : Nat) (hk : k < 256) (h0 : k % 3 = 1) (b0 b1 b2 b3 b4 b5 b6 b7 c0 c1 c2 c3 c4 c5 c6 c7 : UInt8) :
    Calls Ybad.prog 5 #[.int .u8 k, arr16 b0 b1 b2 b3 b4 b5 b6 b7 c0 c1 c2 c3 c4 c5 c6 c7] w (Made p4 p6 w) := by
  have q0 : (k : Int) % 3 = 1 := by omega
  have q1 : (k : Int).tmod 3 = 1 := by rw [Int.tmod_eq_emod_of_nonneg (by omega)]; omega
  unfold arr16
  go_enter Ybad.func5, Ybad.ntmps5
  go_upto_region 9 with fail
  simp only [Nat.add_assoc, Nat.reduceAdd]
  obtain ⟨hsz, hbel, hb0, hb1, hb2⟩ := alloc3 w (Obj.cells #[.int .u8 b0.toNat, .int .u8 b1.toNat, .int .u8 b2.toNat, .int .u8 b3.toNat, .int .u8 b4.toNat, .int .u8 b5.toNat, .int .u8 b6.toNat, .int .u8 b7.toNat, .int .u8 c0.toNat, .int .u8 c1.toNat, .int .u8 c2.toNat, .int .u8 c3.toNat, .int .u8 c4.toNat, .int .u8 c5.toNat, .int .u8 c6.toNat, .int .u8 c7.toNat] 22) (Obj.cells #[.int .u64 0, .int .u64 0, .pointer none] 31) (Obj.cells #[.int .u8 b0.toNat, .int .u8 b1.toNat, .int .u8 b2.toNat, .int .u8 b3.toNat] 43)
  generalize ((w.alloc (Obj.cells #[.int .u8 b0.toNat, .int .u8 b1.toNat, .int .u8 b2.toNat, .int .u8 b3.toNat, .int .u8 b4.toNat, .int .u8 b5.toNat, .int .u8 b6.toNat, .int .u8 b7.toNat, .int .u8 c0.toNat, .int .u8 c1.toNat, .int .u8 c2.toNat, .int .u8 c3.toNat, .int .u8 c4.toNat, .int .u8 c5.toNat, .int .u8 c6.toNat, .int .u8 c7.toNat] 22)).alloc (Obj.cells #[.int .u64 0, .int .u64 0, .pointer none] 31)).alloc (Obj.cells #[.int .u8 b0.toNat, .int .u8 b1.toNat, .int .u8 b2.toNat, .int .u8 b3.toNat] 43) = W at *
  generalize Value.agg #[.int .u8 b0.toNat, .int .u8 b1.toNat, .int .u8 b2.toNat, .int .u8 b3.toNat, .int .u8 b4.toNat, .int .u8 b5.toNat, .int .u8 b6.toNat, .int .u8 b7.toNat, .int .u8 c0.toNat, .int .u8 c1.toNat, .int .u8 c2.toNat, .int .u8 c3.toNat, .int .u8 c4.toNat, .int .u8 c5.toNat, .int .u8 c6.toNat, .int .u8 c7.toNat] = V0
  have F0 : Four w W b0 b1 b2 b3 := by
    refine ⟨hbel, by omega, fun i hi => ?_, fun i hi => ?_, fun i hi => ?_, fun i => ?_⟩
    · have : i = 0 ∨ i = 1 ∨ i = 2 ∨ i = 3 := by omega
      rcases this with rfl | rfl | rfl | rfl <;> simp [World.cell?, hb0]
    · simp [World.cell?, hb2]
    · have : i = 0 ∨ i = 1 ∨ i = 2 := by omega
      rcases this with rfl | rfl | rfl <;> simp [World.cell?, hb1]
    · simp [World.frozen?, hb1]
  have AA : Hid (∀ W' : World, Four w W' b0 b1 b2 b3 → Calls Ybad.prog 9 #[.agg #[.int .u8 b0.toNat, .int .u8 b1.toNat, .int .u8 b2.toNat, .int .u8 b3.toNat]] W' fun e w' => e = .returned (.agg #[.int .u64 (0 : Nat), .int .u64 ((281470681743360 + Lib.beNat [b0, b1, b2, b3] : Nat) : Int), .pointer (some p4)]) ∧ Four w w' b0 b1 b2 b3 ∧ Hid (Below W'.heap.size W' w')) := by
    intro W' h
    refine (from4 (zs.up (fun b hb => h.bel.block b (by have := zs.le; omega)) h.bel.size) b0 b1 b2 b3).mono ?_
    rintro e w' ⟨rfl, hb⟩
    exact ⟨rfl, h.below hb, hb⟩
  obtain ⟨L, hL⟩ : ∃ L, L = 281470681743360 + Lib.beNat [b0, b1, b2, b3] := ⟨_, rfl⟩
  rw [← hL] at AA
  have HL := hide hL
  clear hL hb0 hb1 hb2 hbel zs
  go_region_held3 (fun w' => w'.cell? ⟨w.heap.size, 0, none⟩ = some (.int .u8 b0.toNat) ∧ w'.cell? ⟨w.heap.size, 1, none⟩ = some (.int .u8 b1.toNat) ∧ w'.cell? ⟨w.heap.size, 2, none⟩ = some (.int .u8 b2.toNat) ∧ w'.cell? ⟨w.heap.size, 3, none⟩ = some (.int .u8 b3.toNat) ∧ w'.cell? ⟨w.heap.size + 2, 0, none⟩ = some (.int .u8 b0.toNat) ∧ w'.cell? ⟨w.heap.size + 2, 1, none⟩ = some (.int .u8 b1.toNat) ∧ w'.cell? ⟨w.heap.size + 2, 2, none⟩ = some (.int .u8 b2.toNat) ∧ w'.cell? ⟨w.heap.size + 2, 3, none⟩ = some (.int .u8 b3.toNat)) (first | (exact Four.cells (by repeat (first | assumption | refine Four.drew ?_ | refine Four.alloc ?_ _ | refine Four.set ?_ _ _))))
    (first | (go_at_call 9; refine (AA.out _ (by repeat (first | assumption | refine Four.drew ?_ | refine Four.alloc ?_ _ | refine Four.set ?_ _ _))).mono ?_; rintro e w1 ⟨rfl, F1, hq⟩; obtain ⟨u0, y0⟩ := F1.r 0 (by decide); obtain ⟨u1, y1⟩ := F1.r 1 (by decide); obtain ⟨u2, y2⟩ := F1.r 2 (by decide); have y3 := F1.f 0; have y4 := F1.f 1; have y5 := F1.f 2; have y6 : w.heap.size + 1 < w1.heap.size := (by have := F1.sz; omega); have y7 : w.heap.size + 1 ≠ w1.heap.size := (by omega)))
  all_goals
    obtain ⟨r0, r1, r2⟩ := three (x := .int .u64 0) (y := .int .u64 L) (z := .pointer (some p4)) y0 y1 y2
    have F4 := ((F1.set 0 (.int .u64 0)).set 1 (.int .u64 L)).set 2 (.pointer (some p4))
    have hw3 : (((w1.setCell ⟨w.heap.size + 1, 0, none⟩ (.int .u64 0)).setCell ⟨w.heap.size + 1, 1, none⟩ (.int .u64 L)).setCell ⟨w.heap.size + 1, 2, none⟩ (.pointer (some p4))).heap.size = w1.heap.size := by simp [World.setCell]
    have e3 : ∀ b, b ≠ w.heap.size + 1 → (((w1.setCell ⟨w.heap.size + 1, 0, none⟩ (.int .u64 0)).setCell ⟨w.heap.size + 1, 1, none⟩ (.int .u64 L)).setCell ⟨w.heap.size + 1, 2, none⟩ (.pointer (some p4))).heap[b]? = w1.heap[b]? := fun b hb => by rw [Below.heap_setCell _ _ _ _ hb, Below.heap_setCell _ _ _ _ hb, Below.heap_setCell _ _ _ _ hb]
    generalize ((w1.setCell ⟨w.heap.size + 1, 0, none⟩ (.int .u64 0)).setCell ⟨w.heap.size + 1, 1, none⟩ (.int .u64 L)).setCell ⟨w.heap.size + 1, 2, none⟩ (.pointer (some p4)) = W3 at *
    clear y0 y1 y2 y3 y4 y5 y7 AA
  · have hb : Below W3.heap.size W3 (W3.alloc (Obj.cells #[.int .u8 b0.toNat, .int .u8 b1.toNat, .int .u8 b2.toNat, .int .u8 b3.toNat] 5)) := (Below.refl _ _).alloc (Nat.le_refl _) _
    have s0 := (hb.cell (p := ⟨w.heap.size + 1, 0, none⟩) (by simp only; omega)).trans r0
    have s1 := (hb.cell (p := ⟨w.heap.size + 1, 1, none⟩) (by simp only; omega)).trans r1
    have s2 := (hb.cell (p := ⟨w.heap.size + 1, 2, none⟩) (by simp only; omega)).trans r2
    have BB : Buf (W3.alloc (Obj.cells #[.int .u8 b0.toNat, .int .u8 b1.toNat, .int .u8 b2.toNat, .int .u8 b3.toNat] 5)) w1.heap.size [b0, b1, b2, b3] := Buf.fresh (t := 5) (by rw [← hw3]; exact Array.getElem?_push_size)
    have hS := (F4.alloc (Obj.cells #[.int .u8 b0.toNat, .int .u8 b1.toNat, .int .u8 b2.toNat, .int .u8 b3.toNat] 5)).bel
    have hz : w1.heap.size < (W3.alloc (Obj.cells #[.int .u8 b0.toNat, .int .u8 b1.toNat, .int .u8 b2.toNat, .int .u8 b3.toNat] 5)).heap.size := by simp; omega
    have E := hide (four_end (p4 := p4) (p6 := p6) HL.out hS hz BB)
    clear hS hz BB hb F4 hw3 e3 r0 r1 r2 y6
    generalize W3.alloc (Obj.cells #[.int .u8 b0.toNat, .int .u8 b1.toNat, .int .u8 b2.toNat, .int .u8 b3.toNat] 5) = W4 at *
    clear F1 F0
    go_wp2_with fail
    exact bodyPost_ret (v := .tuple #[.agg #[.int .u64 0, .int .u64 L, .pointer (some p4)], .slice (some ⟨w1.heap.size, 0, none⟩) 4 4]) (by simp [results, Ybad.results5, go_sem, s0, s1, s2]) rfl E.out
  · have hb : Below W3.heap.size W3 (W3.alloc (Obj.cells #[.int .u8 b0.toNat, .int .u8 b1.toNat, .int .u8 b2.toNat, .int .u8 b3.toNat] 5)) := (Below.refl _ _).alloc (Nat.le_refl _) _
    have s0 := (hb.cell (p := ⟨w.heap.size + 1, 0, none⟩) (by simp only; omega)).trans r0
    have s1 := (hb.cell (p := ⟨w.heap.size + 1, 1, none⟩) (by simp only; omega)).trans r1
    have s2 := (hb.cell (p := ⟨w.heap.size + 1, 2, none⟩) (by simp only; omega)).trans r2
    have BB : Buf (W3.alloc (Obj.cells #[.int .u8 b0.toNat, .int .u8 b1.toNat, .int .u8 b2.toNat, .int .u8 b3.toNat] 5)) w1.heap.size [b0, b1, b2, b3] := Buf.fresh (t := 5) (by rw [← hw3]; exact Array.getElem?_push_size)
    have hS := (F4.alloc (Obj.cells #[.int .u8 b0.toNat, .int .u8 b1.toNat, .int .u8 b2.toNat, .int .u8 b3.toNat] 5)).bel
    have hz : w1.heap.size < (W3.alloc (Obj.cells #[.int .u8 b0.toNat, .int .u8 b1.toNat, .int .u8 b2.toNat, .int .u8 b3.toNat] 5)).heap.size := by simp; omega
    have E := hide (four_end (p4 := p4) (p6 := p6) HL.out hS hz BB)
    clear hS hz BB hb F4 hw3 e3 r0 r1 r2 y6
    generalize W3.alloc (Obj.cells #[.int .u8 b0.toNat, .int .u8 b1.toNat, .int .u8 b2.toNat, .int .u8 b3.toNat] 5) = W4 at *
    clear F1 F0
    go_wp2_with fail
    exact bodyPost_ret (v := .tuple #[.agg #[.int .u64 0, .int .u64 L, .pointer (some p4)], .slice (some ⟨w1.heap.size, 0, none⟩) 4 4]) (by simp [results, Ybad.results5, go_sem, s0, s1, s2]) rfl E.out
  · have hal : (W.alloc (Obj.cells #[.int .u8 b0.toNat, .int .u8 b1.toNat, .int .u8 b2.toNat, .int .u8 b3.toNat] 5)).drew.heap[w.heap.size + 3]? = some (Obj.cells #[.int .u8 b0.toNat, .int .u8 b1.toNat, .int .u8 b2.toNat, .int .u8 b3.toNat] 5) := by rw [← hsz]; exact Array.getElem?_push_size
    have hal2 : w.heap.size + 3 < (W.alloc (Obj.cells #[.int .u8 b0.toNat, .int .u8 b1.toNat, .int .u8 b2.toNat, .int .u8 b3.toNat] 5)).drew.heap.size := by
      show _ < (W.alloc (Obj.cells #[.int .u8 b0.toNat, .int .u8 b1.toNat, .int .u8 b2.toNat, .int .u8 b3.toNat] 5)).heap.size
      simp; omega
    have BB : Buf W3 (w.heap.size + 3) [b0, b1, b2, b3] := Buf.fresh (t := 5) (((e3 _ (by omega)).trans (hq.out.block _ hal2)).trans hal)
    have hz : w.heap.size + 3 < W3.heap.size := by have := hq.out.size; omega
    have E := hide (four_end (p4 := p4) (p6 := p6) HL.out F4.bel hz BB)
    clear hz BB F4 hw3 e3 y6 hal hal2 hq F1 F0
    go_wp2_with fail
    exact bodyPost_ret (v := .tuple #[.agg #[.int .u64 0, .int .u64 L, .pointer (some p4)], .slice (some ⟨w.heap.size + 3, 0, none⟩) 4 4]) (by simp [results, Ybad.results5, go_sem, r0, r1, r2]) rfl E.out

end Go.Proofs.YbulkdcggDoor
