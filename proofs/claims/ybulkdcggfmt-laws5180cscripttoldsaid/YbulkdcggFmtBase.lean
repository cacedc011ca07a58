/-
  THE PLAIN MODEL of the file tree, and the predicates over memory.
-/
import Derived.Test.YbulkdcggFmtRows
import Derived.WalkKit
import Derived.ProofKit
import Derived.Below
import Derived.Deep.LoopGhost
import Derived.Deep.DeepCutAuto
import Derived.Deep.CutBlock
import Derived.BigQuiet
import Derived.BigRegion
import Derived.Laws.BitsAllLaws
import Derived.Laws.AppendOwn
import Derived.Laws.OwnMore
import Derived.Laws.CopyOwn
import Derived.Deep.OwnRows
import Derived.Deep.RegionHeld3
import Derived.Lib.UnsafeStr
namespace Go.Proofs.YbulkdcggFmt
open Go.RowKit

theorem hide {p : Prop} (h : p) : Hid p := h

/-- the identifiers of the six files -/
def idOf : Nat → Nat
  | 0 => 16128
  | 1 => 32528
  | 2 => 28476
  | 3 => 28483
  | 4 => 32544
  | _ => 28472
/-- the directory of a file -/
def dirOf : Nat → Nat
  | 0 => 0
  | 1 => 1
  | 2 => 1
  | 3 => 1
  | _ => 4
/-- the files that a SELECT may reach from directory d, in the tree's order -/
def reach : Nat → List Nat
  | 0 => [0, 1, 4]
  | 1 => [0, 1, 2, 3, 4]
  | _ => [0, 1, 4, 5]
/-- the file that a SELECT of id reaches from directory d -/
def pick (d id : Nat) : Option Nat := (reach d).find? (fun i => idOf i == id)
/-- the response of the six files -/
def respOf : Nat → List UInt8
  | 0 => [0, 0, 0, 0, 63, 0, 1, 0, 0, 0, 0, 0, 4, 128, 2, 0, 0]
  | 1 => [0, 0, 0, 0, 127, 16, 2, 0, 0, 0, 0, 0, 4, 128, 0, 2, 0]
  | 2 => [0, 0, 0, 176, 111, 60, 4, 0, 0, 240, 255, 5, 2, 1, 176]
  | 3 => [0, 0, 0, 2, 111, 67, 4, 0, 0, 240, 255, 5, 2, 0, 0]
  | 4 => [0, 0, 0, 0, 127, 32, 2, 0, 0, 0, 0, 0, 4, 128, 0, 1, 0]
  | _ => [0, 0, 0, 2, 111, 56, 4, 0, 0, 240, 255, 5, 2, 0, 0]
theorem pick_lt {d id k : Nat} (h : pick d id = some k) : k < 6 := by
  have hm := List.mem_of_find?_eq_some h
  unfold reach at hm
  split at hm <;> simp at hm <;> omega

/-- v is a slice of the bytes l, its array in a block below N -/
def SliceIs (w : World) (N : Nat) (v : Value) (l : List UInt8) : Prop :=
  ∃ a c, v = .slice a l.length c ∧ l.length ≤ c ∧ c ≤ maxLen ∧ (l ≠ [] → ∃ g o, a = some ⟨g, o, none⟩ ∧ g < N ∧ ∀ j (hj : j < l.length), w.cell? ⟨g, o + j, none⟩ = some (.int .u8 (l[j]).toNat))
theorem SliceIs.up {w W : World} {N : Nat} {v : Value} {l : List UInt8} (d : SliceIs w N v l) (h : ∀ b, b < N → W.heap[b]? = w.heap[b]?) : SliceIs W N v l := by
  obtain ⟨a, c, rfl, h2, h3, h4⟩ := d
  refine ⟨a, c, rfl, h2, h3, fun hl => ?_⟩
  obtain ⟨g, o, rfl, hg, hc⟩ := h4 hl
  exact ⟨g, o, rfl, hg, fun j hj => by rw [World.cell?_of_block (w := w) (h g hg)]; exact hc j hj⟩
theorem SliceIs.more {w : World} {N M : Nat} {v : Value} {l : List UInt8} (d : SliceIs w N v l) (h : N ≤ M) : SliceIs w M v l := by
  obtain ⟨a, c, rfl, h2, h3, h4⟩ := d
  refine ⟨a, c, rfl, h2, h3, fun hl => ?_⟩
  obtain ⟨g, o, rfl, hg, hc⟩ := h4 hl
  exact ⟨g, o, rfl, by omega, hc⟩

/-- block g holds the bytes l from its first cell on, and may be written -/
structure Buf (w : World) (g : Nat) (l : List UInt8) : Prop where
  cell : ∀ j (hj : j < l.length), w.cell? ⟨g, j, none⟩ = some (.int .u8 (l[j]).toNat)
  free : ∀ i, w.frozen? ⟨g, i, none⟩ = false
theorem Buf.at {w : World} {g : Nat} {l : List UInt8} (h : Buf w g l) {j : Nat} {b : UInt8} (e : l[j]? = some b) : w.cell? ⟨g, j, none⟩ = some (.int .u8 b.toNat) := by
  obtain ⟨hj, rfl⟩ := List.getElem?_eq_some_iff.1 e
  exact h.cell j hj
theorem Buf.of_block {w W : World} {g : Nat} {l : List UInt8} (h : Buf w g l) (e : W.heap[g]? = w.heap[g]?) : Buf W g l :=
  ⟨fun j hj => by rw [World.cell?_of_block (w := w) e]; exact h.cell j hj, fun i => by rw [World.frozen?_of_block (w := w) e]; exact h.free i⟩
theorem Buf.slice {w : World} {g N : Nat} {l : List UInt8} (h : Buf w g l) (hg : g < N) (hm : l.length ≤ maxLen) : SliceIs w N (.slice (some ⟨g, 0, none⟩) l.length l.length) l :=
  ⟨_, _, rfl, Nat.le_refl _, hm, fun _ => ⟨g, 0, rfl, hg, fun j hj => by rw [Nat.zero_add]; exact h.cell j hj⟩⟩
theorem Buf.fresh {w : World} {g : Nat} {l : List UInt8} {t : TypeId} (h : w.heap[g]? = some (.cells (Lib.byteCells l).toArray t (0, 0))) : Buf w g l :=
  ⟨fun j hj => by simp [World.cell?, h, Lib.byteCells, hj], fun i => by simp [World.frozen?, h]⟩
theorem Buf.zeros {w : World} {g n : Nat} {t : TypeId} (h : w.heap[g]? = some (.cells (madeCells #[.int .u8 0] n) t (0, 0))) : Buf w g (List.replicate n 0) := by
  refine Buf.fresh (t := t) ?_
  rw [h]
  congr
  apply Array.ext'
  rw [toList_madeCells_one]
  simp [Lib.byteCells]
theorem Buf.set {w : World} {g j : Nat} {l : List UInt8} (h : Buf w g l) (hj : j < l.length) (b : UInt8) : Buf (w.setCell ⟨g, j, none⟩ (.int .u8 b.toNat)) g (l.set j b) := by
  refine ⟨fun i hi => ?_, fun i => by rw [World.frozen?_setCell]; exact h.free i⟩
  have hi' : i < l.length := by simpa using hi
  by_cases e : i = j
  · subst e
    rw [World.cell?_setCell_same w ⟨g, i, none⟩ _ (h.cell i hj)]
    simp
  · rw [World.cell?_setCell_other w ⟨g, j, none⟩ _ (b := ⟨g, i, none⟩)]
    · rw [h.cell i hi', List.getElem_set_ne (by omega)]
    · intro q
      cases q
      exact e rfl
theorem below_set {w : World} {N g j : Nat} {v : Value} (h : N ≤ g) : Below N w (w.setCell ⟨g, j, none⟩ v) := (Below.refl _ _).setCell (by simpa using h) v
theorem size_set {w : World} {a : Addr} {v : Value} : (w.setCell a v).heap.size = w.heap.size := by simp [World.setCell]

theorem alloc1 (w : World) (o : Obj) : (w.alloc o).heap.size = w.heap.size + 1 ∧ Below w.heap.size w (w.alloc o) ∧ (w.alloc o).heap[w.heap.size]? = some o :=
  ⟨by simp, (Below.refl _ _).alloc (Nat.le_refl _) _, Array.getElem?_push_size⟩
theorem alloc2 (w : World) (o1 o2 : Obj) : ((w.alloc o1).alloc o2).heap.size = w.heap.size + 2 ∧ Below w.heap.size w ((w.alloc o1).alloc o2) ∧ ((w.alloc o1).alloc o2).heap[w.heap.size]? = some o1 ∧ ((w.alloc o1).alloc o2).heap[w.heap.size + 1]? = some o2 := by
  refine ⟨by simp, ((Below.refl _ _).alloc (Nat.le_refl _) _).alloc (by simp) _, ?_, ?_⟩
  · rw [Below.heap_alloc _ _ _ (by simp)]
    show (w.heap.push o1)[w.heap.size]? = some o1
    simp
  · show ((w.heap.push o1).push o2)[w.heap.size + 1]? = some o2
    have : w.heap.size + 1 = (w.heap.push o1).size := by simp
    rw [this, Array.getElem?_push_size]
theorem alloc3 (w : World) (o1 o2 o3 : Obj) : (((w.alloc o1).alloc o2).alloc o3).heap.size = w.heap.size + 3 ∧ Below w.heap.size w (((w.alloc o1).alloc o2).alloc o3) ∧ (((w.alloc o1).alloc o2).alloc o3).heap[w.heap.size]? = some o1 ∧ (((w.alloc o1).alloc o2).alloc o3).heap[w.heap.size + 1]? = some o2 ∧ (((w.alloc o1).alloc o2).alloc o3).heap[w.heap.size + 2]? = some o3 := by
  obtain ⟨h1, h2, h3, h4⟩ := alloc2 w o1 o2
  generalize (w.alloc o1).alloc o2 = W at *
  refine ⟨by simp; omega, h2.alloc (by omega) _, ?_, ?_, ?_⟩
  · rw [Below.heap_alloc _ _ _ (by omega)]; exact h3
  · rw [Below.heap_alloc _ _ _ (by omega)]; exact h4
  · show (W.heap.push o3)[w.heap.size + 2]? = some o3
    rw [← h1, Array.getElem?_push_size]
theorem info5 : (Ybaf.prog.info? 5).map (fun i => (i.zero, i.size, i.bytes)) = some (some (.int .u8 0), 1, 1) := by kernel_rfl
end Go.Proofs.YbulkdcggFmt
