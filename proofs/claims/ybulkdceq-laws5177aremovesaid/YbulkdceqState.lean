/-
  WHAT HOLDS IN MEMORY in the law's loops, and what a round does to it. S: the blocks that were there; S: the index; S + 1: 'runs'; from S + 2 on the runs; then 'live', 'rest'.
-/
import Derived.Test.YbulkdceqAdd
import Derived.Deep.OwnRows
import Derived.Test.YbulkdceqShelf
import Derived.Lib.LazyBuf
namespace Go.Proofs.Ybulkdceq
open Go.RowKit Go.Maps

/-- LOOP 1, i runs are filed. -/
structure L1 (w wr : World) (S : Nat) (key : Nat → Nat) (n i : Nat) (hd nx : Nat → Option Nat) : Prop where
  st : St wr S (S + 2) i i hd nx
  chain : ∀ h, h < 4 → IsChain nx (hd h) (chainOf key (fun _ => true) h i)
  runs : wr.rowIs (S + 1) 26 n (fun j => if j < i then .pointer (some ⟨S + 2 + j, 0, none⟩) else .pointer none)
  size : wr.heap.size = S + 2 + i
  bel : Below S w wr
  base : w.heap.size = S

/-- the new run, stored in 'runs', not filed yet -/
theorem L1.boxed {w wr : World} {S : Nat} {key : Nat → Nat} {n i : Nat} {hd nx : Nat → Option Nat} (l : L1 w wr S key n i hd nx) {c : Array Value} (hc : c[12]? = some (.pointer none)) :
    St ((wr.setCell ⟨S + 1, i, none⟩ (.pointer (some ⟨S + 2 + i, 0, none⟩))).alloc (.cells c 41)) S (S + 2) (i + 1) i hd (upd nx i none) := by
  have hs : (wr.setCell ⟨S + 1, i, none⟩ (.pointer (some ⟨S + 2 + i, 0, none⟩))).heap.size = S + 2 + i := by simp [World.setCell, l.size]
  have hlt : S < wr.heap.size := by rw [l.size]; omega
  refine ⟨?_, fun j hj => ?_, by omega⟩
  · refine l.st.map.block ?_
    rw [Below.heap_alloc _ _ _ (by rw [hs]; omega), Below.heap_setCell _ _ _ _ (by simp only; omega)]
  · by_cases e : j = i
    · subst e
      refine ⟨c, ?_, by rw [upd_same]; exact hc⟩
      have := (MapKept.heap_alloc (wr.setCell ⟨S + 1, j, none⟩ (.pointer (some ⟨S + 2 + j, 0, none⟩))) (.cells c 41)).1
      rw [hs] at this
      exact this
    · obtain ⟨c', h1, h2⟩ := l.st.run j (by omega)
      refine ⟨c', ?_, by rw [upd_other _ _ _ e]; exact h2⟩
      rw [Below.heap_alloc _ _ _ (by rw [hs]; omega), Below.heap_setCell _ _ _ _ (by simp only; omega)]
      exact h1

theorem L1.step {w wr w' : World} {S : Nat} {key : Nat → Nat} {n i : Nat} {hd nx : Nat → Option Nat} (l : L1 w wr S key n i hd nx) {c : Array Value}
    (hs : St w' S (S + 2) (i + 1) (i + 1) (upd hd (key i) (some i)) (upd (upd nx i none) i (hd (key i))))
    (hk : Kept S (S + 2) (i + 1) ((wr.setCell ⟨S + 1, i, none⟩ (.pointer (some ⟨S + 2 + i, 0, none⟩))).alloc (.cells c 41)) w') :
    L1 w w' S key n (i + 1) (upd hd (key i) (some i)) (upd (upd nx i none) i (hd (key i))) := by
  have hz : (wr.setCell ⟨S + 1, i, none⟩ (.pointer (some ⟨S + 2 + i, 0, none⟩))).heap.size = S + 2 + i := by simp [World.setCell, l.size]
  refine ⟨hs, fun h hh => ?_, ?_, ?_, ?_, l.base⟩
  · have hc := l.chain h hh
    have hi : ∀ a ∈ chainOf key (fun _ => true) h i, a ≠ i := fun a ha => by have := (mem_chainOf.1 ha).1; omega
    have hc' : IsChain (upd (upd nx i none) i (hd (key i))) (hd h) (chainOf key (fun _ => true) h i) :=
      hc.congr (fun a ha => by rw [upd_other _ _ _ (hi a ha), upd_other _ _ _ (hi a ha)])
    unfold chainOf
    by_cases e : key i = h
    · subst e
      rw [if_pos ⟨rfl, rfl⟩]
      refine ⟨upd_same _ _ _, ?_⟩
      rw [upd_same]
      exact hc'
    · rw [if_neg (fun h => e h.2), upd_other _ _ _ (fun h => e h.symm)]
      exact hc'
  · have h1 := (l.runs.set i (.pointer (some ⟨S + 2 + i, 0, none⟩))).alloc (.cells c 41)
    refine (h1.of_block (hk.block (S + 1) (by omega) (by omega))).congr (fun j hj => ?_)
    by_cases e : j = i
    · subst e; simp
    · simp only [e, if_false]
      by_cases e2 : j < i
      · simp [e2, show j < i + 1 by omega]
      · simp [e2, show ¬ j < i + 1 by omega]
  · rw [hk.size]
    have : ((wr.setCell ⟨S + 1, i, none⟩ (.pointer (some ⟨S + 2 + i, 0, none⟩))).alloc (.cells c 41)).heap.size = (wr.setCell ⟨S + 1, i, none⟩ (.pointer (some ⟨S + 2 + i, 0, none⟩))).heap.size + 1 := by simp
    rw [this, hz]; omega
  · exact Kept.below ((l.bel.setCell (by simp only; omega) _).alloc (by rw [hz]; omega) _) hk (by omega) (by omega)

/-- LOOP 3 (and behind it): so many runs are live; 'rest' holds the numbers of the list. -/
structure L3 (w wr : World) (S : Nat) (key : Nat → Nat) (n k : Nat) (live : Nat → Bool) (zs : List Nat) (hd nx : Nat → Option Nat) : Prop where
  st : St wr S (S + 2) n k hd nx
  chain : ∀ h, h < 4 → IsChain nx (hd h) (chainOf key live h n)
  runs : wr.rowIs (S + 1) 26 n (fun j => .pointer (some ⟨S + 2 + j, 0, none⟩))
  lv : wr.rowIs (S + 2 + n) 4 n (fun j => .bool (live j))
  rs : wr.rowIs (S + 3 + n) 3 n (fun t => .int .i64 ((zs.getD t 0 : Nat) : Int))
  zlen : zs.length ≤ n
  zmem : ∀ z ∈ zs, z < n ∧ live z = true
  znd : zs.Nodup
  size : wr.heap.size = S + 4 + n
  bel : Below S w wr
  base : w.heap.size = S

/-- LOOP 2: i cells of 'live' and 'rest' are laid. -/
structure L2 (w wr : World) (S : Nat) (key : Nat → Nat) (n i : Nat) (hd nx : Nat → Option Nat) : Prop where
  st : St wr S (S + 2) n n hd nx
  chain : ∀ h, h < 4 → IsChain nx (hd h) (chainOf key (fun _ => true) h n)
  runs : wr.rowIs (S + 1) 26 n (fun j => .pointer (some ⟨S + 2 + j, 0, none⟩))
  lv : wr.rowIs (S + 2 + n) 4 n (fun j => .bool (decide (j < i)))
  rs : wr.rowIs (S + 3 + n) 3 n (fun j => .int .i64 (if j < i then (j : Int) else 0))
  size : wr.heap.size = S + 4 + n
  bel : Below S w wr
  base : w.heap.size = S

theorem L1.made {w wr : World} {S : Nat} {key : Nat → Nat} {n : Nat} {hd nx : Nat → Option Nat} (l : L1 w wr S key n n hd nx) :
    L2 w ((wr.alloc (.cells (madeCells #[.bool false] n) 4)).alloc (.cells (madeCells #[.int .i64 0] n) 3)) S key n 0 hd nx := by
  have z1 : (wr.alloc (.cells (madeCells #[.bool false] n) 4)).heap.size = S + 3 + n := by simp [l.size]; omega
  have blk : ∀ b, b < S + 2 + n → ((wr.alloc (.cells (madeCells #[.bool false] n) 4)).alloc (.cells (madeCells #[.int .i64 0] n) 3)).heap[b]? = wr.heap[b]? := fun b hb => by
    rw [Below.heap_alloc _ _ _ (by rw [z1]; omega), Below.heap_alloc _ _ _ (by rw [l.size]; omega)]
  refine ⟨⟨l.st.map.block (blk _ (by omega)), fun j hj => ?_, by omega⟩, l.chain, ?_, ?_, ?_, by simp [l.size]; omega, (l.bel.alloc (by rw [l.size]; omega) _).alloc (by rw [z1]; omega) _, l.base⟩
  · obtain ⟨c, h1, h2⟩ := l.st.run j hj
    exact ⟨c, (blk _ (by omega)).trans h1, h2⟩
  · exact (l.runs.of_block (blk _ (by omega))).congr (fun j hj => by simp [hj])
  · have h := (World.rowIs_made wr (.bool false) n 4).alloc (.cells (madeCells #[.int .i64 0] n) 3)
    rw [l.size] at h
    exact h.congr (fun j hj => by simp)
  · have h := World.rowIs_made (wr.alloc (.cells (madeCells #[.bool false] n) 4)) (.int .i64 0) n 3
    rw [z1] at h
    exact h.congr (fun j hj => by simp)

theorem L2.step {w wr : World} {S : Nat} {key : Nat → Nat} {n i : Nat} {hd nx : Nat → Option Nat} (l : L2 w wr S key n i hd nx) :
    L2 w ((wr.setCell ⟨S + 2 + n, i, none⟩ (.bool true)).setCell ⟨S + 3 + n, i, none⟩ (.int .i64 (i : Int))) S key n (i + 1) hd nx := by
  have blk : ∀ b, b < S + 2 + n → ((wr.setCell ⟨S + 2 + n, i, none⟩ (.bool true)).setCell ⟨S + 3 + n, i, none⟩ (.int .i64 (i : Int))).heap[b]? = wr.heap[b]? := fun b hb => by
    rw [Below.heap_setCell _ _ _ _ (by simp only; omega), Below.heap_setCell _ _ _ _ (by simp only; omega)]
  refine ⟨⟨l.st.map.block (blk _ (by omega)), fun j hj => ?_, by omega⟩, l.chain, l.runs.of_block (blk _ (by omega)), ?_, ?_, by simp [World.setCell, l.size], (l.bel.setCell (by simp only; omega) _).setCell (by simp only; omega) _, l.base⟩
  · obtain ⟨c, h1, h2⟩ := l.st.run j hj
    exact ⟨c, (blk _ (by omega)).trans h1, h2⟩
  · refine ((l.lv.set i (.bool true)).setOther (by simp only; omega) _).congr (fun j hj => ?_)
    by_cases e : j = i
    · subst e; simp
    · simp [e, show (j < i + 1) = (j < i) from propext ⟨fun h => by omega, fun h => by omega⟩]
  · refine ((l.rs.setOther (a := ⟨S + 2 + n, i, none⟩) (by simp only; omega) _).set i (.int .i64 (i : Int))).congr (fun j hj => ?_)
    by_cases e : j = i
    · subst e; simp
    · simp [e, show (j < i + 1) = (j < i) from propext ⟨fun h => by omega, fun h => by omega⟩]

theorem L2.done {w wr : World} {S : Nat} {key : Nat → Nat} {n : Nat} {hd nx : Nat → Option Nat} (l : L2 w wr S key n n hd nx) :
    L3 w wr S key n n (fun _ => true) (List.range n) hd nx :=
  ⟨l.st, l.chain, l.runs, l.lv.congr (fun j hj => by simp [hj]), l.rs.congr (fun j hj => by simp [hj, List.getD]), by simp, fun z hz => ⟨by simpa using hz, rfl⟩, List.nodup_range, l.size, l.bel, l.base⟩

/-- a pick: the number at j goes out of 'rest', it is no longer live, and the run is taken out of the index -/
theorem L3.step {w wr w1 w2 : World} {S : Nat} {key : Nat → Nat} {n k : Nat} {live : Nat → Bool} {zs : List Nat} {hd nx : Nat → Option Nat} (l : L3 w wr S key n k live zs hd nx) {j c : Nat} (hj : j < zs.length) (hc : zs[j]? = some c) (hkey : key c < 4)
    (d : Kept (S + 3 + n) 0 0 wr w1) (rs1 : w1.rowIs (S + 3 + n) 3 n (fun t => .int .i64 (((zs.eraseIdx j).getD t 0 : Nat) : Int)))
    (r : Removed (w1.setCell ⟨S + 2 + n, c, none⟩ (.bool false)) S (S + 2) n k hd nx (key c) c (chainOf key live (key c) n) w2) :
    ∃ hd' nx', L3 w w2 S key n (k + 1) (upd live c false) (zs.eraseIdx j) hd' nx' ∧ nx' c = none := by
  obtain ⟨hd', nx', hs, hk, hch, hh, hx, hn⟩ := r
  have hcn : c < n := (l.zmem c (List.mem_of_getElem? hc)).1
  have b1 : ∀ b, b ≠ S + 3 + n → w1.heap[b]? = wr.heap[b]? := fun b hb => d.block b hb (by omega)
  have b2 : ∀ b, b ≠ S → (b < S + 2 ∨ S + 2 + n ≤ b) → b ≠ S + 2 + n → w2.heap[b]? = w1.heap[b]? := fun b h1 h2 h3 =>
    (hk.block b h1 h2).trans (Below.heap_setCell _ _ _ _ (by simpa using h3))
  refine ⟨hd', nx', ⟨hs, fun h hh4 => ?_, ?_, ?_, ?_, ?_, fun z hz => ?_, ?_, ?_, ?_, l.base⟩, hn⟩
  · rw [chainOf_dead]
    by_cases e : h = key c
    · rw [e]; exact hch
    · have hnot : ∀ a ∈ chainOf key live h n, a ∉ chainOf key live (key c) n := fun a ha hb => by
        have h1 := (mem_chainOf.1 ha).2.2
        have h2 := (mem_chainOf.1 hb).2.2
        exact e (h1.symm.trans h2)
      have hf : (chainOf key live h n).filter (fun a => a ≠ c) = chainOf key live h n := List.filter_eq_self.2 (fun a ha => by
        have : a ≠ c := fun e' => e (by rw [← (mem_chainOf.1 ha).2.2, e'])
        simpa using this)
      rw [hf, hh h e]
      exact (l.chain h hh4).congr (fun a ha => hx a (hnot a ha))
  · exact (l.runs.of_block (b1 _ (by omega))).of_block (b2 _ (by omega) (by omega) (by omega))
  · have h1 := (l.lv.of_block (b1 (S + 2 + n) (by omega))).set c (.bool false)
    refine (h1.of_block (hk.block (S + 2 + n) (by omega) (by omega))).congr (fun t ht => ?_)
    by_cases e : t = c
    · subst e; simp [upd]
    · simp [upd, e]
  · exact rs1.of_block (b2 _ (by omega) (by omega) (by omega))
  · have := List.length_eraseIdx_le zs j; have := l.zlen; omega
  · have hm := List.mem_of_mem_eraseIdx hz
    have hne : z ≠ c := fun e => by
      subst e
      have hnd := l.znd
      have e1 : zs[j] = z := by rw [List.getElem?_eq_getElem hj] at hc; simpa using hc
      rw [List.eraseIdx_eq_take_drop_succ] at hz
      rw [← List.take_append_drop j zs, List.drop_eq_getElem_cons hj, e1] at hnd
      rw [List.nodup_append] at hnd
      rcases List.mem_append.1 hz with h | h
      · exact hnd.2.2 z h z (by simp) rfl
      · exact (List.nodup_cons.1 hnd.2.1).1 h
    exact ⟨(l.zmem z hm).1, by rw [upd_other _ _ _ hne]; exact (l.zmem z hm).2⟩
  · exact l.znd.sublist (List.eraseIdx_sublist zs j)
  · rw [hk.size]
    have : (w1.setCell ⟨S + 2 + n, c, none⟩ (.bool false)).heap.size = w1.heap.size := by simp [World.setCell]
    rw [this, d.size, l.size]
  · have hb1 : Below S w w1 := l.bel.trans ⟨d.os, d.tape, d.output, by rw [d.size]; exact Nat.le_refl _, fun i hi => b1 i (by omega)⟩
    exact Kept.below (hb1.setCell (by simp only; omega) _) hk (by omega) (by omega)

theorem kept_setCells (b : Nat) : ∀ (vs : List Value) (o : Nat) (a w : World), Kept b 0 0 a w → Kept b 0 0 a (w.setCells b o vs)
  | [], _, _, _, h => h
  | v :: r, o, a, w, h => kept_setCells b r (o + 1) a _ (h.trans ⟨rfl, rfl, rfl, by simp [World.setCell], fun k hk _ => Below.heap_setCell _ _ _ _ hk⟩)

/-- slices.Delete(rest, j, j+1). -/
theorem delete_any {w wr : World} {S : Nat} {key : Nat → Nat} {n k : Nat} {live : Nat → Bool} {zs : List Nat} {hd nx : Nat → Option Nat} (l : L3 w wr S key n k live zs hd nx) (hn : n ≤ 300) {j : Nat} (hj : j < zs.length) :
    Calls Yba.prog 5 #[.slice (some ⟨S + 3 + n, 0, none⟩) zs.length n, .int .i64 (j : Int), .int .i64 ((j : Int) + 1)] wr fun e w1 =>
      e = .returned (.slice (some ⟨S + 3 + n, 0, none⟩) (zs.length - 1) n) ∧ Kept (S + 3 + n) 0 0 wr w1 ∧ w1.rowIs (S + 3 + n) 3 n (fun t => .int .i64 (((zs.eraseIdx j).getD t 0 : Nat) : Int)) := by
  have hz := l.zlen
  have h := Yba.slices_Delete_int_cells (S + 3 + n) 0 zs.length n j (j + 1) (zs.map Int.ofNat) wr (by simp) l.zlen (by omega) (by omega) (by omega)
    (fun t ht => by
      have ht' : t < zs.length := by simpa using ht
      rw [Nat.zero_add, l.rs.cell (by omega)]
      simp [List.getD, ht'])
    (fun t ht => by rw [Nat.zero_add]; exact l.rs.frozen t)
  rw [show ((j + 1 : Nat) : Int) = (j : Int) + 1 from by omega] at h
  refine h.mono ?_
  rintro e w' ⟨rfl, q, rfl⟩
  refine ⟨by simp, kept_setCells _ _ _ _ _ ⟨rfl, rfl, rfl, rfl, fun _ _ _ => rfl⟩, ?_⟩
  have el : (((zs.map Int.ofNat).take zs.length).take j ++ ((zs.map Int.ofNat).take zs.length).drop (j + 1) ++ List.replicate (j + 1 - j) 0) = (zs.eraseIdx j ++ [0]).map Int.ofNat := by
    have e1 : (zs.map Int.ofNat).take zs.length = zs.map Int.ofNat := List.take_of_length_le (by simp)
    rw [e1, show j + 1 - j = 1 from by omega, List.eraseIdx_eq_take_drop_succ]
    simp
  rw [el]
  have h1 := rowIs_setCells (((zs.eraseIdx j ++ [0]).map Int.ofNat).map (Value.int .i64)) 0 (wr.drewN q) _ (l.rs.of_block (w' := wr.drewN q) rfl)
  have el2 : (zs.eraseIdx j).length = zs.length - 1 := List.length_eraseIdx_of_lt hj
  refine h1.congr (fun t ht => ?_)
  have el3 : (((zs.eraseIdx j ++ [0]).map Int.ofNat).map (Value.int .i64)).length = zs.length := by simp [el2]; omega
  rw [el3]
  by_cases h2 : t < zs.length
  · rw [if_pos ⟨Nat.zero_le _, by omega⟩, Nat.sub_zero]
    by_cases h3 : t < zs.length - 1
    · have h4 : t < (zs.eraseIdx j).length := by omega
      rw [List.getElem?_map, List.getElem?_map, List.getElem?_append_left h4]
      simp [List.getD, h4]
    · have h4 : t = (zs.eraseIdx j).length := by omega
      subst h4
      simp [List.getD]
  · rw [if_neg (by omega)]
    have h4 : (zs.eraseIdx j)[t]? = none := List.getElem?_eq_none (by omega)
    have h5 : zs[t]? = none := List.getElem?_eq_none (by omega)
    simp [List.getD, h4, h5]
end Go.Proofs.Ybulkdceq
