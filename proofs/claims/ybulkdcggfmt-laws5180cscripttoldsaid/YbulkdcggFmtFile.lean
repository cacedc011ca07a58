/-
  THE WALK of selectFile.
-/
import Derived.Test.YbulkdcggFmtSel
import Derived.Test.YbulkdcggFmtResp
import Derived.Test.YbulkdcggFmtRespDir
import Derived.Test.YbulkdcggFmtModel
import Derived.Test.YbulkdcggFmtWant
import Derived.Test.YbulkdcggFmtShelf
namespace Go.Proofs.YbulkdcggFmt
open Go.RowKit

/-- what the two ways to a response leave -/
def Gave (w : World) (l : List UInt8) (e : Ending) (w' : World) : Prop :=
  ∃ g, e = .returned (.slice (some ⟨g, 0, none⟩) l.length l.length) ∧ Buf w' g l ∧ g < w'.heap.size ∧ w.heap.size ≤ g ∧ Below w.heap.size w w'
theorem six {k : Nat} (h : k < 6) : k = 0 ∨ k = 1 ∨ k = 2 ∨ k = 3 ∨ k = 4 ∨ k = 5 := by omega
theorem want_any {k : Nat} (hk : k < 6) (w : World) : Calls Ybaf.prog 7 #[.int .i64 (k : Nat)] w (Gave w (respOf k)) := by
  rcases six hk with rfl | rfl | rfl | rfl | rfl | rfl
  · exact want0 w
  · exact want1 w
  · exact want2 w
  · exact want3 w
  · exact want4 w
  · exact want5 w
theorem resp_any {s : Shape} {N : Nat} {w : World} (t : Tree s N w) (hN : N ≤ w.heap.size) {k : Nat} (hk : k < 6) : Calls Ybaf.prog 16 #[.pointer (some ⟨s.b k, 0, none⟩)] w (Gave w (respOf k)) := by
  rcases six hk with rfl | rfl | rfl | rfl | rfl | rfl
  · exact resp0 t hN
  · exact resp1 t hN
  · exact resp2 t hN
  · exact resp3 t hN
  · exact resp4 t hN
  · exact resp5 t hN
theorem resp_len (k : Nat) : 0 < (respOf k).length ∧ (respOf k).length ≤ 17 := by
  unfold respOf
  split <;> decide
theorem sel_any {s : Shape} {N : Nat} {w : World} (t : Tree s N w) (hN : N ≤ w.heap.size) {cur id : Nat} (hc : cur < 6) (hid : id < 65536) :
    Calls Ybaf.prog 14 #[.pointer (some ⟨s.b0, 0, none⟩), .pointer (some ⟨s.b cur, 0, none⟩), .int .u16 (id : Nat)] w fun e w' => e = .returned (ptrOf s (pick (dirOf cur) id)) ∧ Below w.heap.size w w' := by
  rcases six hc with rfl | rfl | rfl | rfl | rfl | rfl
  · exact sel0 t hN id _ hid (.inr rfl)
  · exact sel1 t hN id _ hid (.inr rfl)
  · exact sel1 t hN id _ hid (.inl ⟨(t.get 15 (g := s.b2) (o := 1) (v := .int .u8 4) rfl).2, (t.get 16 (g := s.b2) (o := 2) (v := .pointer (some ⟨s.b1, 0, none⟩)) rfl).2⟩)
  · exact sel1 t hN id _ hid (.inl ⟨(t.get 22 (g := s.b3) (o := 1) (v := .int .u8 4) rfl).2, (t.get 23 (g := s.b3) (o := 2) (v := .pointer (some ⟨s.b1, 0, none⟩)) rfl).2⟩)
  · exact sel4 t hN id _ hid (.inr rfl)
  · exact sel4 t hN id _ hid (.inl ⟨(t.get 36 (g := s.b5) (o := 1) (v := .int .u8 4) rfl).2, (t.get 37 (g := s.b5) (o := 2) (v := .pointer (some ⟨s.b4, 0, none⟩)) rfl).2⟩)

/-- the card in block cb -/
structure Card (s : Shape) (w : World) (cb cur : Nat) (rv : Value) : Prop where
  mf : w.cell? ⟨cb, 2, none⟩ = some (.pointer (some ⟨s.b0, 0, none⟩))
  cur : w.cell? ⟨cb, 3, none⟩ = some (.pointer (some ⟨s.b cur, 0, none⟩))
  resp : w.cell? ⟨cb, 6, none⟩ = some rv
  free : ∀ i, w.frozen? ⟨cb, i, none⟩ = false
  lt : cb < w.heap.size
theorem Card.up {s : Shape} {w W : World} {cb cur : Nat} {rv : Value} (c : Card s w cb cur rv) (h : W.heap[cb]? = w.heap[cb]?) (hs : w.heap.size ≤ W.heap.size) : Card s W cb cur rv :=
  ⟨by rw [World.cell?_of_block (w := w) h]; exact c.mf, by rw [World.cell?_of_block (w := w) h]; exact c.cur, by rw [World.cell?_of_block (w := w) h]; exact c.resp, fun i => by rw [World.frozen?_of_block (w := w) h]; exact c.free i, by have := c.lt; omega⟩

set_option maxHeartbeats 3200000 in
set_option maxRecDepth 100000 in
theorem file_p (p1 p2 : Nat) (h : ¬ (p1 = 0 ∧ p2 = 0)) (pv : Value) (a : Option Addr) (n c : Nat) (w : World) :
    Calls Ybaf.prog 5 #[pv, .int .u8 (p1 : Nat), .int .u8 (p2 : Nat), .slice a n c] w fun e w' => e = .returned (.int .u16 27392) ∧ w' = w := by
  by_cases h1 : p1 = 0
  · subst h1
    have h2 : ((p2 : Int) == 0) = false := by simpa using (show p2 ≠ 0 by omega)
    have h3 : ¬ (p2 : Int) = 0 := by omega
    go_enter Ybaf.func5, Ybaf.ntmps5
    go_wp2_with fail
    go_ret
    exact ⟨rfl, rfl⟩
  · have h2 : ((p1 : Int) == 0) = false := by simpa using h1
    have h3 : ¬ (p1 : Int) = 0 := by omega
    go_enter Ybaf.func5, Ybaf.ntmps5
    go_wp2_with fail
    go_ret
    exact ⟨rfl, rfl⟩

set_option maxHeartbeats 3200000 in
set_option maxRecDepth 100000 in
theorem file_l (pv : Value) (a : Option Addr) (n c : Nat) (w : World) (h : n ≠ 2) :
    Calls Ybaf.prog 5 #[pv, .int .u8 0, .int .u8 0, .slice a n c] w fun e w' => e = .returned (.int .u16 26368) ∧ w' = w := by
  have h2 : ((n : Int) == 2) = false := by simpa using (show (n : Int) ≠ 2 by omega)
  have h3 : ¬ (n : Int) = 2 := by omega
  go_enter Ybaf.func5, Ybaf.ntmps5
  go_wp2_with fail
  go_ret
  exact ⟨rfl, rfl⟩

theorem be2 (a b : UInt8) : Lib.beNat [a, b] = a.toNat * 256 + b.toNat := by simp [Lib.beNat, Lib.beFrom]

/-- what selectFile leaves where it finds file k -/
structure Sel (s : Shape) (w w' : World) (cb k : Nat) : Prop where
  card : ∃ g, Card s w' cb k (.slice (some ⟨g, 0, none⟩) (respOf k).length (respOf k).length) ∧ Buf w' g (respOf k) ∧ g < w'.heap.size ∧ cb < g
  bel : Below cb w w'
  far : ∀ b, cb < b → b < w.heap.size → w'.heap[b]? = w.heap[b]?

set_option maxHeartbeats 6400000 in
set_option maxRecDepth 100000 in
theorem file_two {s : Shape} {N cb cur : Nat} {w : World} {rv : Value} (t : Tree s N w) (hN : N ≤ cb) (hcur : cur < 6) (cd : Card s w cb cur rv) (g o c : Nat) (x y : UInt8)
    (hx : w.cell? ⟨g, o, none⟩ = some (.int .u8 x.toNat)) (hy : w.cell? ⟨g, o + 1, none⟩ = some (.int .u8 y.toNat)) (hg : g < w.heap.size) :
    Calls Ybaf.prog 5 #[.pointer (some ⟨cb, 0, none⟩), .int .u8 0, .int .u8 0, .slice (some ⟨g, o, none⟩) 2 c] w fun e w' =>
      match pick (dirOf cur) (x.toNat * 256 + y.toNat) with
      | none => e = .returned (.int .u16 37892) ∧ Below w.heap.size w w'
      | some k => e = .returned (.int .u16 (bits .or .u16 40704 ((respOf k).length : Nat))) ∧ Sel s w w' cb k := by
  have hxl := x.toNat_lt
  have hyl := y.toNat_lt
  have hid : x.toNat * 256 + y.toNat < 65536 := by omega
  have hcl := cd.lt
  have A15 : Hid (∀ W' : World, Below w.heap.size w W' → Calls Ybaf.prog 15 #[.agg #[], .slice (some ⟨g, o, none⟩) 2 c] W' fun e w' => e = .returned (.int .u16 ((x.toNat * 256 + y.toNat : Nat) : Int)) ∧ Below w.heap.size w w') := fun W' h => by
    refine (Ybaf.binary_BE_Uint16 g o 2 c x y W' (by omega) (by rw [h.cell (by simpa using hg)]; exact hx) (by rw [h.cell (by simpa using hg)]; exact hy)).mono ?_
    rintro e w' ⟨rfl, hb⟩
    rw [be2]
    exact ⟨rfl, h.trans (hb.mono h.size)⟩
  have A14 : Hid (∀ W' : World, Below w.heap.size w W' → Calls Ybaf.prog 14 #[.pointer (some ⟨s.b0, 0, none⟩), .pointer (some ⟨s.b cur, 0, none⟩), .int .u16 ((x.toNat * 256 + y.toNat : Nat) : Int)] W' fun e w' => e = .returned (ptrOf s (pick (dirOf cur) (x.toNat * 256 + y.toNat))) ∧ Below w.heap.size w w') := fun W' h => by
    refine (sel_any (t.up (fun b hb => h.block b (by omega))) (by have := h.size; omega) hcur hid).mono ?_
    rintro e w' ⟨rfl, hb⟩
    exact ⟨rfl, h.trans (hb.mono h.size)⟩
  generalize x.toNat * 256 + y.toNat = id at *
  have hP : ∀ k, pick (dirOf cur) id = some k → k < 6 := fun k => pick_lt
  generalize pick (dirOf cur) id = P at *
  have HT := hide t
  have HC := hide cd
  have c2 := cd.mf
  have c3 := cd.cur
  clear t cd hx hy
  have hw0 := Below.refl w.heap.size w
  cases P with
  | none =>
    clear hP
    simp only [ptrOf] at A14
    go_enter Ybaf.func5, Ybaf.ntmps5
    go_upto_region 5 with fail
    go_region_held3 (fun w' => w'.cell? ⟨cb, 2, none⟩ = some (.pointer (some ⟨s.b0, 0, none⟩)) ∧ w'.cell? ⟨cb, 3, none⟩ = some (.pointer (some ⟨s.b cur, 0, none⟩))) (first | (exact ⟨by assumption, by assumption⟩))
      (first | (go_at_call 15; refine (A15.out _ (by first | assumption | exact Below.drew (by assumption))).mono ?_; rintro e w1 ⟨rfl, hq⟩; have y2 := (HC.out.up (hq.block cb hcl) hq.size).mf; have y3 := (HC.out.up (hq.block cb hcl) hq.size).cur) | (go_at_call 14; refine (A14.out _ (by first | assumption | exact Below.drew (by assumption))).mono ?_; rintro e w2 ⟨rfl, hq2⟩; have y4 := (HC.out.up (hq2.block cb hcl) hq2.size).mf; have y5 := (HC.out.up (hq2.block cb hcl) hq2.size).cur))
    go_wp2_with fail
    go_ret
    exact ⟨rfl, hq2⟩
  | some k =>
    have hk := hP k rfl
    clear hP
    simp only [ptrOf] at A14
    have L := resp_len k
    go_enter Ybaf.func5, Ybaf.ntmps5
    go_upto_region 5 with fail
    go_region_held3 (fun w' => w'.cell? ⟨cb, 2, none⟩ = some (.pointer (some ⟨s.b0, 0, none⟩)) ∧ w'.cell? ⟨cb, 3, none⟩ = some (.pointer (some ⟨s.b cur, 0, none⟩))) (first | (exact ⟨by assumption, by assumption⟩))
      (first | (go_at_call 15; refine (A15.out _ (by first | assumption | exact Below.drew (by assumption))).mono ?_; rintro e w1 ⟨rfl, hq⟩; have y2 := (HC.out.up (hq.block cb hcl) hq.size).mf; have y3 := (HC.out.up (hq.block cb hcl) hq.size).cur) | (go_at_call 14; refine (A14.out _ (by first | assumption | exact Below.drew (by assumption))).mono ?_; rintro e w2 ⟨rfl, hq2⟩; have y4 := (HC.out.up (hq2.block cb hcl) hq2.size).mf; have y5 := (HC.out.up (hq2.block cb hcl) hq2.size).cur))
    have C2 := HC.out.up (hq2.block cb hcl) hq2.size
    have T2 := HT.out.up (fun b hb => hq2.block b (by omega))
    have y6 := C2.free 3
    go_upto_region 9 with fail
    have C3 : Card s (w2.setCell ⟨cb, 3, none⟩ (.pointer (some ⟨s.b k, 0, none⟩))) cb k rv :=
      ⟨(World.cell?_setCell_other w2 ⟨cb, 3, none⟩ _ (b := ⟨cb, 2, none⟩) (by simp)).trans C2.mf, World.cell?_setCell_same _ _ _ C2.cur, (World.cell?_setCell_other w2 ⟨cb, 3, none⟩ _ (b := ⟨cb, 6, none⟩) (by simp)).trans C2.resp, fun i => by rw [World.frozen?_setCell]; exact C2.free i, by rw [size_set]; exact C2.lt⟩
    have B3 : Below cb w (w2.setCell ⟨cb, 3, none⟩ (.pointer (some ⟨s.b k, 0, none⟩))) := (hq2.mono (by omega)).trans (below_set (Nat.le_refl _))
    have F3 : ∀ b, cb < b → b < w.heap.size → (w2.setCell ⟨cb, 3, none⟩ (.pointer (some ⟨s.b k, 0, none⟩))).heap[b]? = w.heap[b]? := fun b h1 h2 => by rw [Below.heap_setCell _ _ _ _ (by simp only; omega)]; exact hq2.block b h2
    have Z3 : w.heap.size ≤ (w2.setCell ⟨cb, 3, none⟩ (.pointer (some ⟨s.b k, 0, none⟩))).heap.size := by rw [size_set]; exact hq2.size
    clear C2 T2 y6 y2 y3 y4 y5 hq hq2
    generalize w2.setCell ⟨cb, 3, none⟩ (.pointer (some ⟨s.b k, 0, none⟩)) = W3 at *
    have A16 := hide (resp_any (HT.out.up (fun b hb => B3.block b (by omega))) (by omega) hk)
    obtain ⟨L1, L2⟩ := L
    go_wp2_with (go_at_call 16; refine A16.out.mono ?_; rintro e w4 ⟨gg, rfl, Bf, hg1, hg2, B4⟩; have C4 := C3.up (B4.block cb C3.lt) B4.size; have y7 := C4.resp; have y8 := C4.free 6)
    go_ret
    have C5 : Card s (w4.setCell ⟨cb, 6, none⟩ (.slice (some ⟨gg, 0, none⟩) (respOf k).length (respOf k).length)) cb k (.slice (some ⟨gg, 0, none⟩) (respOf k).length (respOf k).length) :=
      ⟨(World.cell?_setCell_other w4 ⟨cb, 6, none⟩ _ (b := ⟨cb, 2, none⟩) (by simp)).trans C4.mf, (World.cell?_setCell_other w4 ⟨cb, 6, none⟩ _ (b := ⟨cb, 3, none⟩) (by simp)).trans C4.cur, World.cell?_setCell_same _ _ _ C4.resp, fun i => by rw [World.frozen?_setCell]; exact C4.free i, by rw [size_set]; exact C4.lt⟩
    have hgc : cb < gg := by have := C3.lt; omega
    refine ⟨?_, ⟨⟨gg, C5, Bf.of_block (Below.heap_setCell _ _ _ _ (by simp only; omega)), by rw [size_set]; exact hg1, hgc⟩, (B3.trans (B4.mono (by omega))).trans (below_set (Nat.le_refl _)), fun b h1 h2 => ?_⟩⟩
    · rfl
    · rw [Below.heap_setCell _ _ _ _ (by simp only; omega), B4.block b (by omega)]
      exact F3 b h1 h2
end Go.Proofs.YbulkdcggFmt
