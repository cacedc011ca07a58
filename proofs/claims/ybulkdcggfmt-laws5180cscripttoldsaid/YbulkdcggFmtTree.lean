/-
  THE FILE TREE in memory.
-/
import Derived.Test.YbulkdcggFmtBase
namespace Go.Proofs.YbulkdcggFmt
open Go.RowKit

/-- where the files lie -/
structure Shape where
  b0 : Nat
  b1 : Nat
  b2 : Nat
  b3 : Nat
  b4 : Nat
  b5 : Nat
  c0 : Nat
  c1 : Nat
  c4 : Nat
  p0 : Nat
  p1 : Nat
  p4 : Nat
  a2 : Option Addr
  a3 : Option Addr
  a5 : Option Addr
  e2 : Nat
  e3 : Nat
  e5 : Nat
def Shape.b (s : Shape) : Nat → Nat
  | 0 => s.b0
  | 1 => s.b1
  | 2 => s.b2
  | 3 => s.b3
  | 4 => s.b4
  | _ => s.b5
/-- the cells of a file -/
def fileCells (b id typ : Nat) (par : Value) (ch : Value) (st : Nat) (data : Value) (rl : Nat) : List (Nat × Nat × Value) :=
  [(b, 0, .int .u16 id), (b, 1, .int .u8 typ), (b, 2, par), (b, 3, ch), (b, 4, .int .u8 st), (b, 5, data), (b, 6, .int .i64 rl)]
def Shape.cells (s : Shape) : List (Nat × Nat × Value) :=
  fileCells s.b0 16128 1 (.pointer none) (.slice (some ⟨s.c0, 0, none⟩) 2 s.p0) 0 (.slice none 0 0) 0 ++
  fileCells s.b1 32528 2 (.pointer (some ⟨s.b0, 0, none⟩)) (.slice (some ⟨s.c1, 0, none⟩) 2 s.p1) 0 (.slice none 0 0) 0 ++
  fileCells s.b2 28476 4 (.pointer (some ⟨s.b1, 0, none⟩)) (.slice none 0 0) 1 (.slice s.a2 176 s.e2) 176 ++
  fileCells s.b3 28483 4 (.pointer (some ⟨s.b1, 0, none⟩)) (.slice none 0 0) 0 (.slice s.a3 2 s.e3) 0 ++
  fileCells s.b4 32544 2 (.pointer (some ⟨s.b0, 0, none⟩)) (.slice (some ⟨s.c4, 0, none⟩) 1 s.p4) 0 (.slice none 0 0) 0 ++
  fileCells s.b5 28472 4 (.pointer (some ⟨s.b4, 0, none⟩)) (.slice none 0 0) 0 (.slice s.a5 2 s.e5) 0 ++
  [(s.c0, 0, .pointer (some ⟨s.b1, 0, none⟩)), (s.c0, 1, .pointer (some ⟨s.b4, 0, none⟩)), (s.c1, 0, .pointer (some ⟨s.b2, 0, none⟩)), (s.c1, 1, .pointer (some ⟨s.b3, 0, none⟩)), (s.c4, 0, .pointer (some ⟨s.b5, 0, none⟩))]
structure Tree (s : Shape) (N : Nat) (w : World) : Prop where
  all : ∀ x ∈ s.cells, x.1 < N ∧ w.cell? ⟨x.1, x.2.1, none⟩ = some x.2.2
  k0 : 2 ≤ s.p0
  k1 : 2 ≤ s.p1
  k4 : 1 ≤ s.p4
theorem Tree.up {s : Shape} {N : Nat} {w W : World} (t : Tree s N w) (h : ∀ b, b < N → W.heap[b]? = w.heap[b]?) : Tree s N W :=
  ⟨fun x hx => ⟨(t.all x hx).1, by rw [World.cell?_of_block (w := w) (h x.1 (t.all x hx).1)]; exact (t.all x hx).2⟩, t.k0, t.k1, t.k4⟩
theorem Tree.get {s : Shape} {N : Nat} {w : World} (t : Tree s N w) (i : Nat) {g o : Nat} {v : Value} (h : s.cells[i]? = some (g, o, v)) : g < N ∧ w.cell? ⟨g, o, none⟩ = some v :=
  t.all _ (List.mem_of_getElem? h)
theorem Buf.drew {w : World} {g : Nat} {l : List UInt8} (h : Buf w g l) : Buf w.drew g l := ⟨h.cell, h.free⟩
end Go.Proofs.YbulkdcggFmt
