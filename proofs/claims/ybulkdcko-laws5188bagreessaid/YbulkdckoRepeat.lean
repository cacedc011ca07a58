/-
  THE WALK of slices.Repeat([]int64{vacant}, blockLines).
-/
import Derived.Test.YbulkdckoPut
import Derived.Test.YbulkdckoShelf
import Derived.Laws.IdiomCopy
import Derived.Lib.EndianMore
namespace Go.Proofs.Ybulkdcko
open Go.RowKit

theorem info2 : (Yba.prog.info? 2).map (fun i => (i.zero, i.size, i.bytes)) = some (some (.int .i64 0), 1, 8) := by kernel_rfl
theorem size2 : (Yba.prog.info? 2).map (·.size) = some 1 := by kernel_rfl
/-- block b is a row of 4096 numbers, the first m vacant -/
structure Fill (w : World) (b m : Nat) : Prop where
  row : ∃ cur, w.heap[b]? = some (.cells cur 2 (0, 0)) ∧ cur.size = 4096
  vac : ∀ j, j < m → w.cell? ⟨b, j, none⟩ = some (.int .i64 (-1))
theorem Fill.cell {w : World} {b m : Nat} (h : Fill w b m) {j : Nat} (hj : j < 4096) : (w.cell? ⟨b, j, none⟩).isSome = true := by
  obtain ⟨cur, h1, h2⟩ := h.row
  simp [World.cell?, h1, h2, hj]
theorem Fill.free {w : World} {b m : Nat} (h : Fill w b m) (j : Nat) : w.frozen? ⟨b, j, none⟩ = false := by
  obtain ⟨cur, h1, h2⟩ := h.row
  simp [World.frozen?, h1]
theorem heap_setCells {b : Nat} {t : TypeId} {fr : Nat × Nat} : ∀ (vs : List Value) (o : Nat) (w : World) (cur : Array Value), w.heap[b]? = some (.cells cur t fr) → ∃ cur', (w.setCells b o vs).heap[b]? = some (.cells cur' t fr) ∧ cur'.size = cur.size
  | [], _, w, cur, h => ⟨cur, h, rfl⟩
  | v :: vs, o, w, cur, h => by
    obtain ⟨cur', h1, h2⟩ := heap_setCells vs (o + 1) (w.setCell ⟨b, o, none⟩ v) _ (heap_set h v)
    exact ⟨cur', h1, by simpa using h2⟩
theorem Fill.more {w : World} {b m : Nat} (h : Fill w b m) (c : Nat) (hc : m + c ≤ 4096) : Fill (w.setCells b m (List.replicate c (.int .i64 (-1)))) b (m + c) := by
  obtain ⟨cur, h1, h2⟩ := h.row
  obtain ⟨cur', h3, h4⟩ := heap_setCells (List.replicate c (.int .i64 (-1))) m w cur h1
  refine ⟨⟨cur', h3, by omega⟩, fun j hj => ?_⟩
  by_cases hjm : j < m
  · rw [World.cell?_setCells_out _ _ _ _ _ (fun _ _ => .inl hjm)]
    exact h.vac j hjm
  · have := World.cell?_setCells_in b (List.replicate c (Value.int .i64 (-1))) m w (fun i hi => h.cell (by simp at hi; omega)) (j - m) (by simp; omega)
    rw [show m + (j - m) = j by omega] at this
    rw [this]
    simp

set_option maxHeartbeats 6400000 in
set_option maxRecDepth 100000 in
theorem repeat_any {w : World} {g : Nat} (hg : w.cell? ⟨g, 0, none⟩ = some (.int .i64 (-1))) (hgl : g < w.heap.size) :
    Calls Yba.prog 9 #[.slice (some ⟨g, 0, none⟩) 1 1, .int .i64 4096] w fun e w' => ∃ lb, e = .returned (.slice (some ⟨lb, 0, none⟩) 4096 4096) ∧ w.heap.size ≤ lb ∧ Fill w' lb 4096 ∧ Below w.heap.size w w' := by
  have hmk : ∀ W : World, (Instr.makeSlice 23 (.int .i64 4096) (.int .i64 4096)).run Yba.prog W = .ok (.slice (some ⟨W.heap.size, 0, none⟩) 4096 4096) (W.alloc (.cells (madeCells #[.int .i64 0] 4096) 2)) := fun W => run_make_row' (P := Yba.prog) 23 2 (.int .i64 0) 8 Yba.underlying23 info2 rfl .i64 .i64 4096 (by omega) (by omega) W
  have HM := hide (Yba.bits_Mul 1 4096 (by decide) (by decide) w)
  go_enter Yba.func9, Yba.ntmps9
  go_wp2_with fail
  refine HM.out.mono ?_
  rintro e w1 ⟨rfl, rfl⟩
  go_upto_region 7 with fail
  obtain ⟨z1, z2, z3⟩ := alloc1 w1 (Obj.cells (madeCells #[.int .i64 0] 4096) 2)
  generalize w1.alloc (Obj.cells (madeCells #[.int .i64 0] 4096) 2) = W0 at *
  have F0 : Fill W0 w1.heap.size 0 := ⟨⟨_, z3, by rw [← Array.length_toList, toList_madeCells_one]; simp⟩, fun j hj => absurd hj (Nat.not_lt_zero j)⟩
  have hg0 : W0.cell? ⟨g, 0, none⟩ = some (.int .i64 (-1)) := by rw [z2.cell (by simpa using hgl)]; exact hg
  have CP : Hid (∀ (W : World) (m c : Nat) (a : Addr) (sL sC dL dC : Nat) (ty : TypeId), Fill W w1.heap.size m → m + c ≤ 4096 → c = Nat.min sL dL → (∀ j, j < c → W.cell? (a.add j) = some (.int .i64 (-1))) → (Builtin.copy_ #[23, 23] ty #[.slice (some ⟨w1.heap.size, m, none⟩) dL dC, .slice (some a) sL sC]).run Yba.prog W = .ok (goInt c) (W.setCells w1.heap.size m (List.replicate c (.int .i64 (-1))))) := by
    intro W m c a sL sC dL dC ty hF hmc hcm hsrc
    have q := run_copy_cells (P := Yba.prog) W 23 23 ty 2 w1.heap.size m dL dC a sL sC (List.replicate c (.int .i64 (-1))) Yba.underlying23 size2 (by simpa using hcm)
      (fun j v hv => by
        have hj : j < c := by
          have := (List.getElem?_eq_some_iff.1 hv).1
          simpa using this
        rw [List.getElem?_replicate, if_pos hj] at hv
        rw [hsrc j hj, ← Option.some.inj hv]) (fun j hj => hF.cell (by simp at hj; omega)) (fun j _ => hF.free _) (fun v hv => by rw [List.eq_of_mem_replicate hv]; rfl)
    simpa using q
  have c1 : ∀ ty, (Builtin.copy_ #[23, 23] ty #[.slice (some ⟨w1.heap.size, 0, none⟩) 4096 4096, .slice (some ⟨g, 0, none⟩) 1 1]).run Yba.prog W0 = .ok (goInt 1) (W0.setCells w1.heap.size 0 (List.replicate 1 (.int .i64 (-1)))) := fun ty =>
    CP.out W0 0 1 ⟨g, 0, none⟩ 1 1 4096 4096 ty F0 (by omega) rfl (fun j hj => by
      have : j = 0 := by omega
      subst this
      rw [Addr.add_lit]; exact hg0)
  have F1 := hide (F0.more 1 (by omega))
  have B1 : Hid (Below w1.heap.size w1 (W0.setCells w1.heap.size 0 (List.replicate 1 (.int .i64 (-1))))) := z2.trans (Lib.below_setCells_w (Nat.le_refl _) _ _ _)
  clear F0 z1 z2 z3
  go_upto_region 8 with fail
  clear c1 hg0
  have hlb := Nat.le_refl w1.heap.size
  go_loopg [8] 4095 (fun gq s8 wr => ∃ m : Nat, s8 = .int .i64 (m : Nat) ∧ 1 ≤ m ∧ m ≤ 4096 ∧ gq = 4096 - m ∧ Hid (Fill wr w1.heap.size m) ∧ Hid (Below w1.heap.size w1 wr))
  case atStart => exact ⟨1, rfl, by omega, by omega, rfl, F1, B1⟩
  case round =>
    clear F1 B1
    obtain ⟨m, rfl, hm1, hm2, hq, HF, HB⟩ := hrel
    by_cases hlt : m < 4096
    · have hlt' : (m : Int) < 4096 := by omega
      obtain ⟨c, hc⟩ : ∃ c, c = Nat.min m (4096 - m) := ⟨_, rfl⟩
      have hc' : c = min m (4096 - m) := hc
      have hcb : m + c ≤ 4096 := by omega
      have hc0 : 1 ≤ c := by omega
      have c2 : ∀ ty, (Builtin.copy_ #[23, 23] ty #[.slice (some ⟨w1.heap.size, m, none⟩) (4096 - m) (4096 - m), .slice (some ⟨w1.heap.size, 0, none⟩) m 4096]).run Yba.prog wr.drew = .ok (.int .i64 (c : Nat)) (wr.drew.setCells w1.heap.size m (List.replicate c (.int .i64 (-1)))) := fun ty =>
        CP.out wr.drew m c ⟨w1.heap.size, 0, none⟩ m 4096 (4096 - m) (4096 - m) ty ⟨HF.out.row, HF.out.vac⟩ hcb hc (fun j hj => by rw [Addr.add_lit, Nat.zero_add]; exact HF.out.vac j (by omega))
      have F2 : Hid (Fill (wr.drew.setCells w1.heap.size m (List.replicate c (.int .i64 (-1)))) w1.heap.size (m + c)) := Fill.more (w := wr.drew) ⟨HF.out.row, HF.out.vac⟩ c hcb
      have B2 : Hid (Below w1.heap.size w1 (wr.drew.setCells w1.heap.size m (List.replicate c (.int .i64 (-1))))) := HB.out.drew.trans (Lib.below_setCells_w (Nat.le_refl _) _ _ _)
      have HC := hide (And.intro hc hc')
      clear hc hc' HF HB
      go_upto_region 9 with fail
      go_region
      generalize wr.drew.setCells w1.heap.size m (List.replicate c (.int .i64 (-1))) = Wt at *
      clear c2
      go_wp2_with fail
      go_roundg (4096 - (m + c))
      case measure => omega
      case rel => exact ⟨m + c, rfl, by omega, hcb, rfl, F2, B2⟩
    · have e : m = 4096 := by omega
      subst e
      go_wp2_with fail
      go_ret
      exact ⟨w1.heap.size, rfl, Nat.le_refl _, HF.out, HB.out⟩
end Go.Proofs.Ybulkdcko
