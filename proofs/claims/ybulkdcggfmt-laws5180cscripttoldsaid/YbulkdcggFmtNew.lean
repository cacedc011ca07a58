/-
  THE WALK of New.
-/
import Derived.Test.YbulkdcggFmtAdd
import Derived.Test.YbulkdcggFmtFile
namespace Go.Proofs.YbulkdcggFmt
open Go.RowKit

def nilS : Value := .slice none 0 0
theorem FileB.up {w W : World} {b id typ : Nat} {par ch : Value} {st : Nat} {data : Value} {rl lim : Int} (h : FileB w b id typ par ch st data rl lim) (e : W.heap[b]? = w.heap[b]?) : FileB W b id typ par ch st data rl lim := e.trans h
/-- the tree behind EF_SMSS -/
structure G0 (w : World) (m t sm ss k0 k1 : Nat) (v0 v1 : Value) (a2 a3 : Option Addr) (e2 e3 : Nat) (W : World) : Prop where
  fm : FileB W m 16128 1 (.pointer none) v0 0 (.slice none 0 0) 0 0
  ft : FileB W t 32528 2 (.pointer (some ⟨m, 0, none⟩)) v1 0 (.slice none 0 0) 0 0
  fs : FileB W sm 28476 4 (.pointer (some ⟨t, 0, none⟩)) (.slice none 0 0) 1 (.slice a2 176 e2) (176 : Nat) (-1)
  fq : FileB W ss 28483 4 (.pointer (some ⟨t, 0, none⟩)) (.slice none 0 0) 0 (.slice a3 2 e3) (0 : Nat) (-1)
  r0 : Row W k0 v0 [t]
  r1 : Row W k1 v1 [sm, ss]
  l0 : ∀ g, v0.ownBlock = some g → g < k1
  mt : m < t
  ts : t < sm
  sq : sm < ss
  lo : w.heap.size ≤ m
  lk : w.heap.size ≤ k0
  ll : w.heap.size ≤ k1
  bel : Below w.heap.size w W
theorem G0.up {w : World} {m t sm ss k0 k1 : Nat} {v0 v1 : Value} {a2 a3 : Option Addr} {e2 e3 : Nat} {W W' : World} (h : G0 w m t sm ss k0 k1 v0 v1 a2 a3 e2 e3 W) (b : Below W.heap.size W W') : G0 w m t sm ss k0 k1 v0 v1 a2 a3 e2 e3 W' :=
  ⟨h.fm.up (b.block _ h.fm.lt), h.ft.up (b.block _ h.ft.lt), h.fs.up (b.block _ h.fs.lt), h.fq.up (b.block _ h.fq.lt), h.r0.up (fun g hg => b.block g (h.r0.lt hg).2), h.r1.up (fun g hg => b.block g (h.r1.lt hg).2), h.l0, h.mt, h.ts, h.sq, h.lo, h.lk, h.ll, h.bel.trans (b.mono h.bel.size)⟩
theorem G0.drew {w : World} {m t sm ss k0 k1 : Nat} {v0 v1 : Value} {a2 a3 : Option Addr} {e2 e3 : Nat} {W : World} (h : G0 w m t sm ss k0 k1 v0 v1 a2 a3 e2 e3 W) : G0 w m t sm ss k0 k1 v0 v1 a2 a3 e2 e3 W.drew := h.up (Below.refl _ _).drew
/-- .. and DF_GSM -/
structure G1 (w : World) (m t sm ss gs k0 k1 : Nat) (v0 v1 : Value) (a2 a3 : Option Addr) (e2 e3 : Nat) (W : World) : Prop where
  fm : FileB W m 16128 1 (.pointer none) v0 0 (.slice none 0 0) 0 0
  ft : FileB W t 32528 2 (.pointer (some ⟨m, 0, none⟩)) v1 0 (.slice none 0 0) 0 0
  fs : FileB W sm 28476 4 (.pointer (some ⟨t, 0, none⟩)) (.slice none 0 0) 1 (.slice a2 176 e2) (176 : Nat) (-1)
  fq : FileB W ss 28483 4 (.pointer (some ⟨t, 0, none⟩)) (.slice none 0 0) 0 (.slice a3 2 e3) (0 : Nat) (-1)
  fg : FileB W gs 32544 2 (.pointer (some ⟨m, 0, none⟩)) (.slice none 0 0) 0 (.slice none 0 0) 0 0
  r0 : Row W k0 v0 [t, gs]
  r1 : Row W k1 v1 [sm, ss]
  mt : m < t
  ts : t < sm
  sq : sm < ss
  qg : ss < gs
  lo : w.heap.size ≤ m
  bel : Below w.heap.size w W
theorem G1.up {w : World} {m t sm ss gs k0 k1 : Nat} {v0 v1 : Value} {a2 a3 : Option Addr} {e2 e3 : Nat} {W W' : World} (h : G1 w m t sm ss gs k0 k1 v0 v1 a2 a3 e2 e3 W) (b : Below W.heap.size W W') : G1 w m t sm ss gs k0 k1 v0 v1 a2 a3 e2 e3 W' :=
  ⟨h.fm.up (b.block _ h.fm.lt), h.ft.up (b.block _ h.ft.lt), h.fs.up (b.block _ h.fs.lt), h.fq.up (b.block _ h.fq.lt), h.fg.up (b.block _ h.fg.lt), h.r0.up (fun g hg => b.block g (h.r0.lt hg).2), h.r1.up (fun g hg => b.block g (h.r1.lt hg).2), h.mt, h.ts, h.sq, h.qg, h.lo, h.bel.trans (b.mono h.bel.size)⟩
theorem G1.drew {w : World} {m t sm ss gs k0 k1 : Nat} {v0 v1 : Value} {a2 a3 : Option Addr} {e2 e3 : Nat} {W : World} (h : G1 w m t sm ss gs k0 k1 v0 v1 a2 a3 e2 e3 W) : G1 w m t sm ss gs k0 k1 v0 v1 a2 a3 e2 e3 W.drew := h.up (Below.refl _ _).drew
theorem G0.addDF {w : World} {m t sm ss k0 k1 : Nat} {v0 v1 : Value} {a2 a3 : Option Addr} {e2 e3 : Nat} {W : World} (h : G0 w m t sm ss k0 k1 v0 v1 a2 a3 e2 e3 W) (hk : k0 ≤ W.heap.size) :
    Calls Ybaf.prog 10 #[.pointer (some ⟨m, 0, none⟩), .int .u16 32544] W fun e w' => ∃ v0' gs, e = .returned (.pointer (some ⟨gs, 0, none⟩)) ∧ G1 w m t sm ss gs k0 k1 v0' v1 a2 a3 e2 e3 w' := by
  refine (addDF_any h.fm h.r0 hk (by simp) 32544).mono ?_
  rintro e w' ⟨v', rfl, f1, f2, ad⟩
  have q := h.fq.lt
  have n1 := h.mt
  have n2 := h.ts
  have n3 := h.sq
  refine ⟨v', _, rfl, ⟨f2, h.ft.up (ad.far _ h.ft.lt (by omega) (h.ft.ne h.r0)), h.fs.up (ad.far _ h.fs.lt (by omega) (h.fs.ne h.r0)), h.fq.up (ad.far _ h.fq.lt (by omega) (h.fq.ne h.r0)), f1, ad.row, h.r1.up (fun g hg => ad.far g (h.r1.lt hg).2 (fun e => h.fm.ne h.r1 (e ▸ hg)) (fun e => ?_)), n1, n2, n3, q, h.lo, h.bel.trans (ad.bel _ h.lo h.lk h.bel.size)⟩⟩
  have := h.l0 g e
  have := (h.r1.lt hg).1
  omega
theorem Row.two {w : World} {B : Nat} {v : Value} {ps : List Nat} (h : Row w B v ps) (hne : 0 < ps.length) : ∃ g c, v = .slice (some ⟨g, 0, none⟩) ps.length c ∧ ps.length ≤ c ∧ g < w.heap.size ∧ ∀ j b, ps[j]? = some b → w.cell? ⟨g, j, none⟩ = some (.pointer (some ⟨b, 0, none⟩)) := by
  rcases h with ⟨h1, ⟨rfl, h2⟩ | ⟨g, cap, cur, rfl, hg, hb, hn, hm, hcs, ht⟩⟩
  · omega
  · refine ⟨g, cap, rfl, hn, (Array.getElem?_eq_some_iff.1 hb).1, fun j b hj => ?_⟩
    have hj' := (List.getElem?_eq_some_iff.1 hj).1
    have hown : w.ownsRow B 36 1 (.slice (some ⟨g, 0, none⟩) ps.length cap) ps.length (ps.map ptr) := ⟨h1, .inr ⟨g, cap, cur, rfl, hg, hb, hn, hm, hcs, ht⟩⟩
    rw [hown.cellAt j (by omega), List.getElem?_map, hj]
    rfl
theorem FileB.cells {w : World} {b id typ : Nat} {par ch : Value} {st : Nat} {data : Value} {rl : Nat} {lim : Int} (h : FileB w b id typ par ch st data rl lim) {N : Nat} (hN : w.heap.size ≤ N) : ∀ x ∈ fileCells b id typ par ch st data rl, x.1 < N ∧ w.cell? ⟨x.1, x.2.1, none⟩ = some x.2.2 := by
  intro x hx
  have hl := h.lt
  rw [FileB] at h
  simp only [fileCells, List.mem_cons, List.not_mem_nil, or_false] at hx
  rcases hx with rfl | rfl | rfl | rfl | rfl | rfl | rfl <;> exact ⟨by simp only; omega, by simp [World.cell?, h]⟩
theorem G1.addEF {w : World} {m t sm ss gs k0 k1 : Nat} {v0 v1 : Value} {a2 a3 : Option Addr} {e2 e3 : Nat} {W : World} (h : G1 w m t sm ss gs k0 k1 v0 v1 a2 a3 e2 e3 W) (a5 : Option Addr) (e5 : Nat) :
    Calls Ybaf.prog 11 #[.pointer (some ⟨gs, 0, none⟩), .int .u16 28472, .int .u8 0, .slice a5 2 e5, .int .i64 0] W fun e w' => (∃ x, e = .returned x) ∧ Below w.heap.size w w' ∧ ∃ s : Shape, s.b0 = m ∧ s.b2 = sm ∧ s.b3 = ss ∧ Tree s w'.heap.size w' := by
  refine (addEF_any h.fg (Row.nil W W.heap.size) (Nat.le_refl _) (by simp) 28472 0 a5 2 e5 0).mono ?_
  rintro e w' ⟨v4, rfl, f1, f2, ad⟩
  have n1 := h.mt
  have n2 := h.ts
  have n3 := h.sq
  have n4 := h.qg
  have fm := h.fm.up (ad.far _ h.fm.lt (by omega) (by simp [Value.ownBlock]))
  have ft := h.ft.up (ad.far _ h.ft.lt (by omega) (by simp [Value.ownBlock]))
  have fs := h.fs.up (ad.far _ h.fs.lt (by omega) (by simp [Value.ownBlock]))
  have fq := h.fq.up (ad.far _ h.fq.lt (by omega) (by simp [Value.ownBlock]))
  have r0 := h.r0.up (fun g hg => ad.far g (h.r0.lt hg).2 (fun e => h.fg.ne h.r0 (e ▸ hg)) (by simp [Value.ownBlock]))
  have r1 := h.r1.up (fun g hg => ad.far g (h.r1.lt hg).2 (fun e => h.fg.ne h.r1 (e ▸ hg)) (by simp [Value.ownBlock]))
  have r4 := ad.row
  have hlo := h.lo
  obtain ⟨c0, p0, rfl, q0, x0, y0⟩ := r0.two (by simp)
  obtain ⟨c1, p1, rfl, q1, x1, y1⟩ := r1.two (by simp)
  obtain ⟨c4, p4, rfl, q4, x4, y4⟩ := r4.two (by simp)
  refine ⟨⟨_, rfl⟩, h.bel.trans (ad.bel _ (by omega) h.bel.size h.bel.size), ⟨m, t, sm, ss, gs, W.heap.size, c0, c1, c4, p0, p1, p4, a2, a3, a5, e2, e3, e5⟩, rfl, rfl, rfl, ⟨?_, q0, q1, q4⟩⟩
  intro x hx
  simp only [Shape.cells, List.mem_append] at hx
  rcases hx with (((((hx | hx) | hx) | hx) | hx) | hx) | hx
  · exact fm.cells (rl := 0) (Nat.le_refl _) x hx
  · exact ft.cells (rl := 0) (Nat.le_refl _) x hx
  · exact fs.cells (Nat.le_refl _) x hx
  · exact fq.cells (Nat.le_refl _) x hx
  · exact f2.cells (rl := 0) (Nat.le_refl _) x hx
  · exact f1.cells (Nat.le_refl _) x hx
  · simp only [List.mem_cons, List.not_mem_nil, or_false] at hx
    rcases hx with rfl | rfl | rfl | rfl | rfl
    · exact ⟨x0, y0 0 _ rfl⟩
    · exact ⟨x0, y0 1 _ rfl⟩
    · exact ⟨x1, y1 0 _ rfl⟩
    · exact ⟨x1, y1 1 _ rfl⟩
    · exact ⟨x4, y4 0 _ rfl⟩
end Go.Proofs.YbulkdcggFmt
