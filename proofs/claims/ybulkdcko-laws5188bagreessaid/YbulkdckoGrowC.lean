/-
  THE WALK of grow, where the last block is full: a new block behind it.
-/
import Derived.Test.YbulkdckoAnew
namespace Go.Proofs.Ybulkdcko
open Go.RowKit

theorem nodup_snoc {L : Lay} {w : World} {M : Nat} (h : Pic w M L) {x : Nat} (hx : w.heap.size ≤ x) : (L.bs.map (·.lb) ++ [x]).Nodup := by
  rw [List.nodup_append]
  refine ⟨h.nd, by simp, fun a ha b hb => ?_⟩
  obtain ⟨c, hc, rfl⟩ := List.mem_map.1 ha
  simp only [List.mem_cons, List.not_mem_nil, or_false] at hb
  subst hb
  obtain ⟨_, _, cur, e1, _⟩ := h.lin c hc
  have := (Array.getElem?_eq_some_iff.1 e1).1
  omega

/-- append(g.blocks, block{lines: make(0, 4096)}) and the store -/
theorem new_core {w : World} {M : Nat} {L : Lay} (h : Pic w M L) (hM : M ≤ w.heap.size) (hne : L.bs ≠ []) (hfew : L.bs.length < 1000) (ty : TypeId) (W0 : World)
    (hW0 : W0 = ((w.alloc (.cells (madeCells #[.int .i64 0] 4096) 2)).alloc (.cells #[.slice (some ⟨w.heap.size, 0, none⟩) 0 4096, .int .i64 0] 41)).drew) :
    ∃ kb ko kc W, (Builtin.append_ #[25, 25] ty #[.slice (some ⟨L.kb, L.ko, none⟩) L.bs.length L.kc, .slice (some ⟨w.heap.size + 1, 0, none⟩) 1 1]).run Yba.prog W0 = .ok (.slice (some ⟨kb, ko, none⟩) (L.bs.length + 1) kc) W ∧
      W.cell? ⟨L.gb, 0, none⟩ = some (.slice (some ⟨L.kb, L.ko, none⟩) L.bs.length L.kc) ∧ W.frozen? ⟨L.gb, 0, none⟩ = false ∧
      Step M w (W.setCell ⟨L.gb, 0, none⟩ (.slice (some ⟨kb, ko, none⟩) (L.bs.length + 1) kc)) L { L with kb := kb, ko := ko, kc := kc, bs := L.bs ++ [(⟨w.heap.size, 4096, []⟩ : Blk)] } := by
  obtain ⟨z1, z2, z3⟩ := alloc1 w (.cells (madeCells #[.int .i64 0] 4096) 2)
  obtain ⟨y1, y2, y3⟩ := alloc1 (w.alloc (.cells (madeCells #[.int .i64 0] 4096) 2)) (.cells #[.slice (some ⟨w.heap.size, 0, none⟩) 0 4096, .int .i64 0] 41)
  have hb0 : Below w.heap.size w W0 := by
    rw [hW0]
    exact (z2.trans (y2.mono (by omega))).drew
  have hs0 : W0.heap.size = w.heap.size + 2 := by rw [hW0]; show ((w.alloc _).alloc _).heap.size = _; rw [y1, z1]
  have hA : W0.heap[w.heap.size]? = some (.cells (madeCells #[.int .i64 0] 4096) 2) := by
    rw [hW0]
    show ((w.alloc _).alloc _).heap[w.heap.size]? = _
    rw [y2.block _ (by omega)]
    exact z3
  have hB : W0.heap[w.heap.size + 1]? = some (.cells #[.slice (some ⟨w.heap.size, 0, none⟩) 0 4096, .int .i64 0] 41) := by
    rw [hW0]
    show ((w.alloc _).alloc _).heap[w.heap.size + 1]? = _
    rw [← z1]
    exact y3
  clear hW0 z1 z2 z3 y1 y2 y3
  have p0 := h.up hb0
  have hml : (madeCells #[.int .i64 0] 4096 : Array Value).size = 4096 := by rw [← Array.length_toList, toList_madeCells_one, List.length_replicate]
  obtain ⟨i0, hi0, hz0, hz1, hz2⟩ := info_parts info41
  have hnb : bcells [(⟨w.heap.size, 4096, []⟩ : Blk)] = [.slice (some ⟨w.heap.size, 0, none⟩) 0 4096, .int .i64 0] := rfl
  have hlin : ∀ W : World, W.heap[w.heap.size]? = some (.cells (madeCells #[.int .i64 0] 4096) 2) → ∀ b ∈ [(⟨w.heap.size, 4096, []⟩ : Blk)], w.heap.size ≤ b.lb ∧ LinAt W b := fun W hW b hb => by
    simp only [List.mem_cons, List.not_mem_nil, or_false] at hb
    subst hb
    exact ⟨Nat.le_refl _, by unfold maxLen; simp only; omega, Nat.zero_le _, _, hW, hml, fun j x hx => by simp at hx⟩
  have hnews : ∀ j u, (bcells [(⟨w.heap.size, 4096, []⟩ : Blk)])[j]? = some u → W0.cell? ((⟨w.heap.size + 1, 0, none⟩ : Addr).add j) = some u := fun j u hu => by
    rw [Addr.add_lit, cell_of_cells hB, Nat.zero_add]
    rw [hnb] at hu
    simpa using hu
  have hkw : L.kb < w.heap.size := by
    obtain ⟨cur', e1, _⟩ := h.arr hne
    exact (Array.getElem?_eq_some_iff.1 e1).1
  have hgw := h.lt
  have hf0 := p0.fields.1
  rw [Pic.hdr_some hne] at hf0
  have hnl : (bcells [(⟨w.heap.size, 4096, []⟩ : Blk)]).length = 2 := rfl
  have hbl := bcells_length L.bs
  have hnd : ((L.bs ++ [(⟨w.heap.size, 4096, []⟩ : Blk)]).map (·.lb)).Nodup := by
    rw [List.map_append]
    exact nodup_snoc h (Nat.le_refl _)
  have hmem : ∀ b ∈ L.bs ++ [(⟨w.heap.size, 4096, []⟩ : Blk)], b ∈ L.bs ∨ b ∈ [(⟨w.heap.size, 4096, []⟩ : Blk)] := fun b hb => List.mem_append.1 hb
  have hne' : L.bs ++ [(⟨w.heap.size, 4096, []⟩ : Blk)] ≠ [] := by simp
  have hlen : (L.bs ++ [(⟨w.heap.size, 4096, []⟩ : Blk)]).length = L.bs.length + 1 := by simp
  have hgk := h.ne_k hne
  have hroom := h.room
  obtain ⟨cur, c1, c2, c3⟩ := p0.arr hne
  by_cases hr : L.bs.length + 1 ≤ L.kc
  · have hsome : ∀ j, j < 2 → (W0.cell? ⟨L.kb, L.ko + L.bs.length * 2 + j, none⟩).isSome = true := fun j hj => by
      rw [cell_of_cells c1, Array.getElem?_eq_getElem (by omega)]
      rfl
    have hrun := run_append_room_cells (P := Yba.prog) W0 25 ty 41 i0 Yba.underlying25 hi0 L.kb L.ko L.bs.length L.kc ⟨w.heap.size + 1, 0, none⟩ 1 1 (bcells [(⟨w.heap.size, 4096, []⟩ : Blk)]) (by rw [hz1]; rfl) hnews (bcells_one _) hr
      (fun j hj => by rw [hz1]; exact hsome j hj) (fun j hj => by simp [World.frozen?, c1])
    rw [hz1] at hrun
    have hk1 : ∃ cur', (W0.setCells L.kb (L.ko + L.bs.length * 2) (bcells [(⟨w.heap.size, 4096, []⟩ : Blk)])).heap[L.kb]? = some (.cells cur' 41 (0, 0)) ∧ cur'.size = cur.size := heap_setCells _ _ _ _ c1
    have hfar : ∀ x, x ≠ L.kb → (W0.setCells L.kb (L.ko + L.bs.length * 2) (bcells [(⟨w.heap.size, 4096, []⟩ : Blk)])).heap[x]? = W0.heap[x]? := fun x hx => setCells_far _ _ _ x hx
    have hcell : ∀ j u, (bcells (L.bs ++ [(⟨w.heap.size, 4096, []⟩ : Blk)]))[j]? = some u → (W0.setCells L.kb (L.ko + L.bs.length * 2) (bcells [(⟨w.heap.size, 4096, []⟩ : Blk)])).cell? ⟨L.kb, L.ko + j, none⟩ = some u := fun j u hu => by
      rw [bcells_append] at hu
      by_cases hj : j < L.bs.length * 2
      · rw [List.getElem?_append_left (by omega)] at hu
        rw [World.cell?_setCells_out _ _ _ _ _ (fun _ _ => .inl (by show L.ko + j < _; omega))]
        exact p0.cells j u hu
      · rw [List.getElem?_append_right (by omega), hbl] at hu
        have := get_setCells (b := L.kb) _ (L.ko + L.bs.length * 2) W0 (fun j hj => hsome j (by omega)) _ u hu
        rw [show L.ko + j = L.ko + L.bs.length * 2 + (j - L.bs.length * 2) by omega]
        exact this
    have hbel : Below M w (W0.setCells L.kb (L.ko + L.bs.length * 2) (bcells [(⟨w.heap.size, 4096, []⟩ : Blk)])) := below_setCells (h.lok hne) _ _ _ _ (hb0.mono hM)
    generalize W0.setCells L.kb (L.ko + L.bs.length * 2) (bcells [(⟨w.heap.size, 4096, []⟩ : Blk)]) = W at *
    have hWg : W.heap[L.gb]? = W0.heap[L.gb]? := hfar _ hgk
    refine ⟨L.kb, L.ko, L.kc, W, hrun, ?_, by simp [World.frozen?, hWg, p0.grp], ?_⟩
    · rw [World.cell?_of_block (w := W0) hWg]; exact hf0
    · obtain ⟨cur', k1, k2⟩ := hk1
      refine step_anew (base := L.base) (news := [(⟨w.heap.size, 4096, []⟩ : Blk)]) h hM hne' ?_ (.inl ⟨rfl, hne⟩) ⟨cur', ?_, by omega⟩ (fun j u hu => ?_) (by rw [hlen]; exact hr) h.small (by omega) hmem (hlin _ ?_) hnd (hbel.setCell h.lo _) (fun x hx h1 h2 => ?_)
      · rw [heap_set (hWg.trans p0.grp), hlen]
        rfl
      · rw [Below.heap_setCell _ _ _ _ hgk.symm]
        exact k1
      · rw [World.cell?_of_block (w := W) (Below.heap_setCell _ _ _ _ hgk.symm)]
        exact hcell j u hu
      · rw [Below.heap_setCell _ _ _ _ (by simp only; omega), hfar _ (by omega)]
        exact hA
      · rw [Below.heap_setCell _ _ _ _ h1, hfar x (h2 hne)]
        exact hb0.block x hx
  · have hrun := run_append_grow (P := Yba.prog) W0 25 ty 41 i0 _ Yba.underlying25 hi0 hz0 ⟨L.kb, L.ko, none⟩ L.bs.length L.kc (bcells L.bs) (by rw [hz1]; exact hbl) (fun j u hu => by rw [Addr.add_lit]; exact p0.cells j u hu) ⟨w.heap.size + 1, 0, none⟩ 1 1 (bcells [(⟨w.heap.size, 4096, []⟩ : Blk)]) (by rw [hz1]; rfl) hnews (by omega) (by omega)
      (by rw [hz2]; exact growslice_fits (by omega) (by omega))
    have hge := grownCap_ge W0 (L.bs.length + 1) L.kc 41
    have hle := grownCap_le_maxLen W0 (L.bs.length + 1) L.kc 41 (by unfold maxLen; omega)
    generalize grownCap W0 (L.bs.length + 1) L.kc 41 = G at *
    obtain ⟨row, hrow⟩ : ∃ row : Array Value, row = (bcells L.bs).toArray ++ (bcells [(⟨w.heap.size, 4096, []⟩ : Blk)]).toArray ++ Builtin.zeroCells (Value.agg #[.slice none 0 0, .int .i64 0]).cells (G - (L.bs.length + 1)) := ⟨_, rfl⟩
    rw [← hrow] at hrun
    have hrs : row.size = G * 2 := by
      rw [hrow]
      simp only [Array.size_append, List.size_toArray, size_zeroCells, hbl, hnl, Value.cells]
      simp only [List.length_cons, List.length_nil]
      omega
    have hrg : ∀ j u, (bcells (L.bs ++ [(⟨w.heap.size, 4096, []⟩ : Blk)]))[j]? = some u → row[j]? = some u := fun j u hu => by
      have hj := (List.getElem?_eq_some_iff.1 hu).1
      rw [bcells_append] at hu hj
      rw [hrow, Array.getElem?_append_left (by simpa using hj)]
      simpa using hu
    obtain ⟨x1, x2, x3⟩ := alloc1 W0.drew (.cells row 41)
    have x1' : (W0.drew.alloc (.cells row 41)).heap.size = W0.heap.size + 1 := x1
    have x3' : (W0.drew.alloc (.cells row 41)).heap[W0.heap.size]? = some (.cells row 41) := x3
    have x2' : Below W0.heap.size W0 (W0.drew.alloc (.cells row 41)) := ((Below.refl _ _).drew).trans x2
    clear x1 x2 x3 hrow
    generalize W0.drew.alloc (.cells row 41) = W at *
    have hWg : W.heap[L.gb]? = W0.heap[L.gb]? := x2'.block _ (by omega)
    refine ⟨W0.heap.size, 0, G, W, hrun, ?_, by simp [World.frozen?, hWg, p0.grp], ?_⟩
    · rw [World.cell?_of_block (w := W0) hWg]; exact hf0
    · refine step_anew (base := L.base) (news := [(⟨w.heap.size, 4096, []⟩ : Blk)]) h hM hne' ?_ (.inr (by omega)) ⟨row, ?_, by omega⟩ (fun j u hu => ?_) (by rw [hlen]; exact hge) hle (by omega) hmem (hlin _ ?_) hnd (((hb0.trans (x2'.mono (by omega))).mono hM).setCell h.lo _) (fun x hx h1 h2 => ?_)
      · rw [heap_set (hWg.trans p0.grp), hlen]
        rfl
      · rw [Below.heap_setCell _ _ _ _ (by simp only; omega)]
        exact x3'
      · rw [World.cell?_of_block (w := W) (Below.heap_setCell _ _ _ _ (by simp only; omega)), cell_of_cells x3', Nat.zero_add]
        exact hrg j u hu
      · rw [Below.heap_setCell _ _ _ _ (by simp only; omega), x2'.block _ (by omega)]
        exact hA
      · rw [Below.heap_setCell _ _ _ _ h1, x2'.block _ (by omega)]
        exact hb0.block x hx
end Go.Proofs.Ybulkdcko
