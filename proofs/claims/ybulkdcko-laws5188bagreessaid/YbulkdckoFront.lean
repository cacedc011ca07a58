/-
  THE FRONT BLOCKS of hold, and the walk of grow in one contract.
-/
import Derived.Test.YbulkdckoShift
import Derived.Test.YbulkdckoRdy
namespace Go.Proofs.Ybulkdcko
open Go.RowKit

theorem grow_any {w : World} {M : Nat} {L : Lay} (h : Pic w M L) (hM : M ≤ w.heap.size) (hs : Shaped L) (hl : ∀ b, L.bs.getLast? = some b → 0 < b.ls.length) (hf : L.bs = [] → L.base = L.first) (hfew : L.bs.length < 1000) :
    Calls Yba.prog 12 #[.pointer (some ⟨L.gb, 0, none⟩)] w fun e w' => e = .returned (.tuple #[]) ∧ ∃ L', Step M w w' L L' ∧ Grown L L' := by
  by_cases he : L.bs = []
  · refine (grow_first h hM he).mono ?_
    rintro e w' ⟨rfl, kb, ko, kc, g, cap, st⟩
    exact ⟨rfl, _, st, grown_new hs hf (fun b hb => by rw [he] at hb; simp at hb) kb ko kc g cap⟩
  · obtain ⟨b, hb, hb'⟩ := last_of_ne he
    have hle := hs.le b (List.mem_of_getElem? hb')
    by_cases h4 : b.ls.length = 4096
    · refine (grow_new h hM hb' h4 hfew).mono ?_
      rintro e w' ⟨rfl, kb, ko, kc, g, cap, st⟩
      exact ⟨rfl, _, st, grown_new hs hf (fun c hc => by rw [hb'] at hc; rw [← Option.some.inj hc]; exact h4) kb ko kc g cap⟩
    · by_cases hr : b.ls.length = b.cap
      · refine (grow_move h hM hb' (by omega) hr (hl b hb)).mono ?_
        rintro e w' ⟨rfl, g, cap, st⟩
        exact ⟨rfl, _, st, grown_push hs hb' (by omega) g cap⟩
      · refine (grow_room h hM hb' (by omega) hr).mono ?_
        rintro e w' ⟨rfl, g, cap, st⟩
        exact ⟨rfl, _, st, grown_push hs hb' (by omega) g cap⟩

/-- front: a slice of m blocks in block w.heap.size, the first of which have their lines -/
structure Front (w W : World) (m : Nat) (fs : List Blk) : Prop where
  bel : Below w.heap.size w W
  row : ∃ cur, W.heap[w.heap.size]? = some (.cells cur 41 (0, 0)) ∧ cur.size = m * 2
  cells : ∀ j u, (bcells fs)[j]? = some u → W.cell? ⟨w.heap.size, j, none⟩ = some u
  rest : ∀ j, fs.length ≤ j → j < m → W.cell? ⟨w.heap.size, j * 2 + 1, none⟩ = some (.int .i64 0)
  lin : ∀ b ∈ fs, w.heap.size < b.lb ∧ LinAt W b ∧ b.ls = List.replicate 4096 (-1)
  nd : (fs.map (·.lb)).Nodup
theorem Front.lt {w W : World} {m : Nat} {fs : List Blk} (f : Front w W m fs) : w.heap.size < W.heap.size := by
  obtain ⟨cur, h, _⟩ := f.row
  exact (Array.getElem?_eq_some_iff.1 h).1
theorem Front.cell {w W : World} {m : Nat} {fs : List Blk} (f : Front w W m fs) {j : Nat} (hj : j < m * 2) : ∃ v, W.cell? ⟨w.heap.size, j, none⟩ = some v := by
  obtain ⟨cur, h, hs⟩ := f.row
  exact ⟨cur[j], by rw [cell_of_cells h, Array.getElem?_eq_getElem (by omega)]⟩
theorem Front.free {w W : World} {m : Nat} {fs : List Blk} (f : Front w W m fs) (j : Nat) : W.frozen? ⟨w.heap.size, j, none⟩ = false := by
  obtain ⟨cur, h, hs⟩ := f.row
  simp [World.frozen?, h]
theorem made_odd (a b : Value) (m j : Nat) (hj : j < m) : (madeCells #[a, b] (m * 2))[j * 2 + 1]? = some b := by
  have hlt : j * 2 + 1 < m * 2 := by omega
  have e : (j * 2 + 1) % 2 = 1 := by omega
  simp [madeCells, hlt, e]
theorem front_start (w : World) (m : Nat) (hm : m ≤ 1000) : ∃ W, (∀ k1 k2, (Instr.makeSlice 25 (.int k1 (m : Nat)) (.int k2 (m : Nat))).run Yba.prog w = .ok (.slice (some ⟨w.heap.size, 0, none⟩) m m) W) ∧ Front w W m [] := by
  obtain ⟨i0, hi0, hz0, hz1, hz2⟩ := info_parts info41
  obtain ⟨z1, z2, z3⟩ := alloc1 w (.cells (madeCells #[.slice none 0 0, .int .i64 0] (m * 2)) 41)
  refine ⟨_, fun k1 k2 => ?_, z2, ⟨_, z3, size_madeCells _ _⟩, fun j u hu => by simp [bcells] at hu, fun j _ hj => ?_, fun b hb => by simp at hb, by simp⟩
  · have q := run_make (P := Yba.prog) w 25 41 i0 _ Yba.underlying25 hi0 hz0 k1 k2 (m : Nat) (m : Nat) (by omega) (by omega) (by rw [hz2]; omega) (by omega)
    rw [hz1] at q
    simpa [Value.cells] using q
  · rw [cell_of_cells z3]
    exact made_odd _ _ m j hj
theorem lin_of_fill {W : World} {lb : Nat} (f : Fill W lb 4096) : LinAt W ⟨lb, 4096, List.replicate 4096 (-1)⟩ := by
  obtain ⟨cur, h1, h2⟩ := f.row
  refine ⟨by unfold maxLen; simp only; omega, by rw [List.length_replicate]; exact Nat.le_refl _, cur, h1, h2, fun j x hx => ?_⟩
  rw [List.getElem?_replicate] at hx
  split at hx
  · rename_i hj
    rw [← Option.some.inj hx, ← cell_of_cells h1]
    exact f.vac j hj
  · cases hx
theorem lin_up {W W' : World} {b : Blk} (h : LinAt W b) (hw : W'.heap[b.lb]? = W.heap[b.lb]?) : LinAt W' b := by
  obtain ⟨h1, h2, cur, h3, h4⟩ := h
  exact ⟨h1, h2, cur, hw.trans h3, h4⟩
theorem lin_lt {W : World} {b : Blk} (h : LinAt W b) : b.lb < W.heap.size := by
  obtain ⟨h1, h2, cur, h3, h4⟩ := h
  exact (Array.getElem?_eq_some_iff.1 h3).1
theorem held_rep : heldOf (List.replicate 4096 (-1)) = 0 := held_of_vacant (fun j x hx => by
  rw [List.getElem?_replicate] at hx
  split at hx
  · exact (Option.some.inj hx).symm
  · cases hx)
/-- one more block's lines -/
theorem Front.more {w W W1 : World} {m lb : Nat} {fs : List Blk} (f : Front w W m fs) (hm : fs.length < m) (hlb : W.heap.size ≤ lb) (fi : Fill W1 lb 4096) (b1 : Below W.heap.size W W1) :
    Front w (W1.setCell ⟨w.heap.size, fs.length * 2, none⟩ (.slice (some ⟨lb, 0, none⟩) 4096 4096)) m (fs ++ [⟨lb, 4096, List.replicate 4096 (-1)⟩]) := by
  have hlt := f.lt
  obtain ⟨cur, h1, h2⟩ := f.row
  have h1' : W1.heap[w.heap.size]? = some (.cells cur 41 (0, 0)) := (b1.block _ hlt).trans h1
  have hset := heap_set h1' (i := fs.length * 2) (.slice (some ⟨lb, 0, none⟩) 4096 4096)
  have hbl := bcells_length fs
  have hlin := lin_of_fill fi
  refine ⟨(f.bel.trans (b1.mono (Nat.le_of_lt hlt))).setCell (Nat.le_refl _) _, ⟨_, hset, by simpa using h2⟩, fun j u hu => ?_, fun j hj hjm => ?_, fun b hb => ?_, ?_⟩
  · rw [cell_of_cells hset]
    rw [bcells_append] at hu
    by_cases hj : j < fs.length * 2
    · rw [List.getElem?_append_left (by omega)] at hu
      rw [Array.getElem?_setIfInBounds_ne (by omega), ← cell_of_cells h1]
      exact f.cells j u hu
    · rw [List.getElem?_append_right (by omega), hbl] at hu
      have hu' : [Value.slice (some ⟨lb, 0, none⟩) 4096 4096, .int .i64 0][j - fs.length * 2]? = some u := by
        have e : bcells [⟨lb, 4096, List.replicate 4096 (-1)⟩] = [Value.slice (some ⟨lb, 0, none⟩) 4096 4096, .int .i64 0] := by
          unfold bcells
          simp only [List.flatMap_cons, List.flatMap_nil, List.append_nil, List.length_replicate, held_rep]
          rfl
        rw [← e]
        exact hu
      have hj2 : j - fs.length * 2 < 2 := by
        have := (List.getElem?_eq_some_iff.1 hu').1
        simpa using this
      by_cases e : j = fs.length * 2
      · subst e
        rw [Nat.sub_self] at hu'
        rw [Array.getElem?_setIfInBounds_self_of_lt (by omega)]
        simpa using hu'
      · rw [show j - fs.length * 2 = 1 by omega] at hu'
        rw [Array.getElem?_setIfInBounds_ne (by omega), ← cell_of_cells h1, show j = fs.length * 2 + 1 by omega, f.rest fs.length (Nat.le_refl _) hm]
        simpa using hu'
  · rw [cell_of_cells hset, Array.getElem?_setIfInBounds_ne (by omega), ← cell_of_cells h1]
    exact f.rest j (by simp only [List.length_append, List.length_cons, List.length_nil] at hj; omega) hjm
  · have hfar : ∀ x, x ≠ w.heap.size → (W1.setCell ⟨w.heap.size, fs.length * 2, none⟩ (.slice (some ⟨lb, 0, none⟩) 4096 4096)).heap[x]? = W1.heap[x]? := fun x hx => Below.heap_setCell _ _ _ _ hx
    rcases List.mem_append.1 hb with q | q
    · obtain ⟨k1, k2, k3⟩ := f.lin b q
      have := lin_lt k2
      exact ⟨k1, lin_up k2 ((hfar _ (by omega)).trans (b1.block _ this)), k3⟩
    · simp only [List.mem_cons, List.not_mem_nil, or_false] at q
      subst q
      exact ⟨by simp only; omega, lin_up hlin (hfar _ (by simp only; omega)), rfl⟩
  · rw [List.map_append, List.nodup_append]
    refine ⟨f.nd, List.pairwise_singleton _ _, fun a ha c hc => ?_⟩
    obtain ⟨b, hb, rfl⟩ := List.mem_map.1 ha
    simp only [List.map_cons, List.map_nil, List.mem_cons, List.not_mem_nil, or_false] at hc
    subst hc
    have := lin_lt (f.lin b hb).2.1
    omega

/-- the blocks' slice with the front ahead, stored -/
theorem front_step {w W w1 : World} {M : Nat} {L : Lay} {fs : List Blk} (h : Pic w M L) (hM : M ≤ w.heap.size) (hne : L.bs ≠ []) (f : Front w W fs.length fs) (hfew : fs.length + L.bs.length ≤ 1000) {kb ko kc : Nat}
    (hkb : kb = L.kb ∨ w.heap.size ≤ kb) (hb : Below M W w1) (hfar : ∀ x, x < W.heap.size → x ≠ L.kb → w1.heap[x]? = W.heap[x]?) (hrow : ∃ cur, w1.heap[kb]? = some (.cells cur 41 (0, 0)) ∧ cur.size = ko + kc * 2)
    (hcells : ∀ j u, (bcells fs ++ bcells L.bs)[j]? = some u → w1.cell? ⟨kb, ko + j, none⟩ = some u) (hroom : fs.length + L.bs.length ≤ kc) (hsmall : kc ≤ maxLen) (base : Int) :
    w1.heap[L.gb]? = w.heap[L.gb]? ∧ Step M w ((w1.setCell ⟨L.gb, 0, none⟩ (.slice (some ⟨kb, ko, none⟩) (fs.length + L.bs.length) kc)).setCell ⟨L.gb, 1, none⟩ (.int .i64 base)) L { L with kb := kb, ko := ko, kc := kc, bs := fs ++ L.bs, base := base } := by
  have hlt := f.lt
  have hgw := h.lt
  have hkw : L.kb < w.heap.size := by
    obtain ⟨cur', e1, _⟩ := h.arr hne
    exact (Array.getElem?_eq_some_iff.1 e1).1
  have hgk := h.ne_k hne
  have hg1 : w1.heap[L.gb]? = w.heap[L.gb]? := (hfar _ (by omega) hgk).trans (f.bel.block _ hgw)
  have hk2 : L.gb ≠ kb := fun e => by
    rcases hkb with q | q
    · exact hgk (by rw [e, q])
    · omega
  refine ⟨hg1, ?_⟩
  have hfar2 : ∀ x, x ≠ L.gb → ((w1.setCell ⟨L.gb, 0, none⟩ (.slice (some ⟨kb, ko, none⟩) (fs.length + L.bs.length) kc)).setCell ⟨L.gb, 1, none⟩ (.int .i64 base)).heap[x]? = w1.heap[x]? := fun x hx => by
    rw [Below.heap_setCell _ _ _ _ hx, Below.heap_setCell _ _ _ _ hx]
  refine step_anew (news := fs) h hM (by simp [hne]) ?_ (hkb.imp_left fun q => ⟨q, hne⟩) ?_ (fun j u hu => ?_) (by simpa using hroom) hsmall (by simpa using hfew) (fun b hb => (List.mem_append.1 hb).symm) (fun b hb => ?_) ?_ ?_ (fun x hx h1 h2 => ?_)
  · rw [heap_set (heap_set (hg1.trans h.grp) _), List.length_append]
    rfl
  · obtain ⟨cur, c1, c2⟩ := hrow
    exact ⟨cur, (hfar2 _ hk2.symm).trans c1, c2⟩
  · rw [World.cell?_of_block (w := w1) (hfar2 _ hk2.symm)]
    rw [bcells_append] at hu
    exact hcells j u hu
  · obtain ⟨k1, k2, k3⟩ := f.lin b hb
    have := lin_lt k2
    exact ⟨by omega, lin_up k2 ((hfar2 _ (by omega)).trans (hfar _ this (by omega)))⟩
  · rw [List.map_append, List.nodup_append]
    refine ⟨f.nd, h.nd, fun a ha c hc => ?_⟩
    obtain ⟨b, hb, rfl⟩ := List.mem_map.1 ha
    obtain ⟨d, hd, rfl⟩ := List.mem_map.1 hc
    obtain ⟨k1, k2, k3⟩ := f.lin b hb
    obtain ⟨_, _, cur, e1, _⟩ := h.lin d hd
    have := (Array.getElem?_eq_some_iff.1 e1).1
    omega
  · exact (((f.bel.mono hM).trans hb).setCell h.lo _).setCell h.lo _
  · rw [hfar2 x h1, hfar x (by omega) (h2 hne)]
    exact f.bel.block x hx

/-- slices.Insert(g.blocks, 0, front...) -/
theorem insert_any {w W : World} {M : Nat} {L : Lay} {fs : List Blk} (h : Pic w M L) (hM : M ≤ w.heap.size) (hne : L.bs ≠ []) (hfs : 0 < fs.length) (f : Front w W fs.length fs) (hfew : fs.length + L.bs.length ≤ 1000) :
    Calls Yba.prog 10 #[.slice (some ⟨L.kb, L.ko, none⟩) L.bs.length L.kc, .int .i64 0, .slice (some ⟨w.heap.size, 0, none⟩) fs.length fs.length] W fun e w1 => ∃ kb ko kc, e = .returned (.slice (some ⟨kb, ko, none⟩) (fs.length + L.bs.length) kc) ∧
      w1.heap[L.gb]? = w.heap[L.gb]? ∧ L.gb < w1.heap.size ∧ ∀ base : Int, Step M w ((w1.setCell ⟨L.gb, 0, none⟩ (.slice (some ⟨kb, ko, none⟩) (fs.length + L.bs.length) kc)).setCell ⟨L.gb, 1, none⟩ (.int .i64 base)) L { L with kb := kb, ko := ko, kc := kc, bs := fs ++ L.bs, base := base } := by
  have hlt := f.lt
  have hgw := h.lt
  have p := h.up f.bel
  have hp : 0 < L.bs.length := List.length_pos_iff.2 hne
  have hroom := h.room
  have hkl := h.lok hne
  have hkw : L.kb < w.heap.size := by
    obtain ⟨cur', e1, _⟩ := h.arr hne
    exact (Array.getElem?_eq_some_iff.1 e1).1
  by_cases hr : L.kc < L.bs.length + fs.length
  · refine (insert_grow W L.kb L.ko L.bs.length L.kc w.heap.size fs.length fs.length (bcells L.bs) (bcells fs) hp hfs hroom hr (by omega) (bcells_length _) (bcells_length _) (fun j v hv => p.cells j v hv) (fun j v hv => f.cells j v hv) (bcells_one _) (bcells_one _)).mono ?_
    rintro e w1 ⟨G, rfl, k1, k2, k3, k4, k5⟩
    have hs := fun base => front_step h hM hne f hfew (kb := W.heap.size) (ko := 0) (kc := G) (.inr (by omega)) (k3.mono (by omega)) (fun x hx _ => k3.block x hx) (by obtain ⟨cur, c1, c2⟩ := k4; exact ⟨cur, c1, by omega⟩) (fun j u hu => by rw [Nat.zero_add]; exact k5 j u hu) (by omega) k2 base
    exact ⟨_, _, _, by rw [Nat.add_comm], (hs 0).1, Nat.lt_of_lt_of_le (by omega) k3.size, fun base => (hs base).2⟩
  · obtain ⟨cur, c1, c2, c3⟩ := p.arr hne
    obtain ⟨curv, d1, d2⟩ := f.row
    refine (insert_shift W L.kb L.ko L.bs.length L.kc w.heap.size fs.length fs.length (bcells L.bs) (bcells fs) cur curv hp hfs (by omega) h.small (by omega) (by omega) c1 c2 d1 (bcells_length _) (bcells_length _) (fun j v hv => p.cells j v hv) (fun j v hv => f.cells j v hv) (bcells_one _) (bcells_one _)).mono ?_
    rintro e w1 ⟨rfl, k1, k2, k3, k4⟩
    have hs := fun base => front_step h hM hne f hfew (kb := L.kb) (ko := L.ko) (kc := L.kc) (.inl rfl) (k1 M hkl) (fun x _ hx => k2 x hx) k3 k4 (by omega) h.small base
    exact ⟨_, _, _, by rw [Nat.add_comm], (hs 0).1, Nat.lt_of_lt_of_le (by omega) (k1 0 (Nat.zero_le _)).size, fun base => (hs base).2⟩
end Go.Proofs.Ybulkdcko
