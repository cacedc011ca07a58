/-
  THE WALK of grow, where the group keeps no block.
-/
import Derived.Test.YbulkdckoGrowD
namespace Go.Proofs.Ybulkdcko
open Go.RowKit

/-- the group with one block that has no lines yet -/
structure Mid (M : Nat) (w W : World) (L : Lay) : Prop where
  grp : W.heap[L.gb]? = some (.cells #[.slice (some ⟨w.heap.size, 0, none⟩) 1 1, .int .i64 L.base, .int .i64 L.first, .int .i64 L.count, .int .i64 L.high, .int .i64 L.last] 27 (0, 0))
  row : W.heap[w.heap.size]? = some (.cells #[.slice none 0 0, .int .i64 0] 41 (0, 0))
  size : w.heap.size < W.heap.size
  bel : Below M w W
  far : ∀ x, x < w.heap.size → x ≠ L.gb → W.heap[x]? = w.heap[x]?
theorem Mid.up {M : Nat} {w W W' : World} {L : Lay} (h : Mid M w W L) (hM : M ≤ w.heap.size) (b : Below W.heap.size W W') : Mid M w W' L :=
  ⟨(b.block _ (Array.getElem?_eq_some_iff.1 h.grp).1).trans h.grp, (b.block _ h.size).trans h.row, Nat.lt_of_lt_of_le h.size b.size, h.bel.trans (b.mono (Nat.le_trans hM (Nat.le_of_lt h.size))), fun x hx hn => (b.block x (Nat.lt_trans hx h.size)).trans (h.far x hx hn)⟩
theorem mid_start {w : World} {M : Nat} {L : Lay} (h : Pic w M L) (hM : M ≤ w.heap.size) : Mid M w ((w.setCell ⟨L.gb, 0, none⟩ (.slice (some ⟨w.heap.size, 0, none⟩) 1 1)).alloc (.cells #[.slice none 0 0, .int .i64 0] 41)) L := by
  obtain ⟨z1, z2, z3⟩ := alloc1 (w.setCell ⟨L.gb, 0, none⟩ (.slice (some ⟨w.heap.size, 0, none⟩) 1 1)) (.cells #[.slice none 0 0, .int .i64 0] 41)
  have hg := h.lt
  have k1 := heap_set h.grp (i := 0) (.slice (some ⟨w.heap.size, 0, none⟩) 1 1)
  have k2 : Below M w (w.setCell ⟨L.gb, 0, none⟩ (.slice (some ⟨w.heap.size, 0, none⟩) 1 1)) := (Below.refl _ _).setCell h.lo _
  have k3 : ∀ x, x ≠ L.gb → (w.setCell ⟨L.gb, 0, none⟩ (.slice (some ⟨w.heap.size, 0, none⟩) 1 1)).heap[x]? = w.heap[x]? := fun x hx => Below.heap_setCell _ _ _ _ hx
  rw [size_set] at z1 z2 z3
  generalize w.setCell ⟨L.gb, 0, none⟩ (.slice (some ⟨w.heap.size, 0, none⟩) 1 1) = W0 at *
  generalize W0.alloc (.cells #[.slice none 0 0, .int .i64 0] 41) = W at *
  exact ⟨(z2.block _ hg).trans k1, z3, by omega, k2.trans (z2.mono hM), fun x hx hn => (z2.block x hx).trans (k3 x hn)⟩
theorem mid_first {w W : World} {M : Nat} {L : Lay} (h : Pic w M L) (hM : M ≤ w.heap.size) (m : Mid M w W L) :
    ((W.alloc (.cells (madeCells #[.int .i64 0] 8) 2)).drew).cell? ⟨w.heap.size, 0, none⟩ = some (.slice none 0 0) ∧ ((W.alloc (.cells (madeCells #[.int .i64 0] 8) 2)).drew).frozen? ⟨w.heap.size, 0, none⟩ = false ∧
    Step M w (((W.alloc (.cells (madeCells #[.int .i64 0] 8) 2)).drew).setCell ⟨w.heap.size, 0, none⟩ (.slice (some ⟨W.heap.size, 0, none⟩) 0 8)) L { L with kb := w.heap.size, ko := 0, kc := 1, bs := [⟨W.heap.size, 8, []⟩] } := by
  obtain ⟨z1, z2, z3⟩ := alloc1 W (.cells (madeCells #[.int .i64 0] 8) 2)
  have z1' : ((W.alloc (.cells (madeCells #[.int .i64 0] 8) 2)).drew).heap.size = W.heap.size + 1 := z1
  have z2' := z2.drew
  have z3' : ((W.alloc (.cells (madeCells #[.int .i64 0] 8) 2)).drew).heap[W.heap.size]? = some (.cells (madeCells #[.int .i64 0] 8) 2) := z3
  clear z1 z2 z3
  generalize (W.alloc (.cells (madeCells #[.int .i64 0] 8) 2)).drew = V at *
  have mv := m.up hM z2'
  have hs := m.size
  have hg := h.lt
  have hml : (madeCells #[.int .i64 0] 8 : Array Value).size = 8 := by rw [← Array.length_toList, toList_madeCells_one, List.length_replicate]
  have hset := heap_set mv.row (i := 0) (.slice (some ⟨W.heap.size, 0, none⟩) 0 8)
  refine ⟨by simp [World.cell?, mv.row], by simp [World.frozen?, mv.row], ?_⟩
  refine step_anew (base := L.base) (news := [⟨W.heap.size, 8, []⟩]) h hM (by simp) ?_ (.inr (Nat.le_refl _)) ⟨_, hset, rfl⟩ (fun j u hu => ?_) (Nat.le_refl _) (by unfold maxLen; omega) (by simp) (fun b hb => .inr hb) (fun b hb => ?_) (by simp) (mv.bel.setCell hM _) (fun x hx h1 _ => ?_)
  · rw [Below.heap_setCell _ _ _ _ (by simp only; omega)]
    exact mv.grp
  · rw [cell_of_cells hset, Nat.zero_add]
    simpa [bcells, heldOf] using hu
  · simp only [List.mem_cons, List.not_mem_nil, or_false] at hb
    subst hb
    refine ⟨by simp only; omega, by unfold maxLen; simp only; omega, Nat.zero_le _, _, ?_, hml, fun j x hx => by simp at hx⟩
    rw [Below.heap_setCell _ _ _ _ (by simp only; omega)]
    exact z3'
  · rw [Below.heap_setCell _ _ _ _ (by simp only; omega)]
    exact mv.far x hx h1
theorem append_nothing (w : World) (b : Nat) (ty : TypeId) : (Builtin.append_ #[23, 23] ty #[.slice (some ⟨b, 0, none⟩) 0 8, .slice none 0 0]).run Yba.prog w = .ok (.slice (some ⟨b, 0, none⟩) 0 8) w := by
  obtain ⟨i0, hi0, hz0, hz1, hz2⟩ := info_parts info2
  simp [Builtin.append_, run_underlying Yba.underlying23, sizeOf, typeInfo, hi0, Builtin.lenOf, Builtin.firstCells, storeCells]

set_option maxHeartbeats 6400000 in
set_option maxRecDepth 100000 in
theorem grow_first {w : World} {M : Nat} {L : Lay} (h : Pic w M L) (hM : M ≤ w.heap.size) (he : L.bs = []) :
    Calls Yba.prog 12 #[.pointer (some ⟨L.gb, 0, none⟩)] w fun e w' => e = .returned (.tuple #[]) ∧ ∃ kb ko kc g cap, Step M w w' L { L with kb := kb, ko := ko, kc := kc, bs := L.bs ++ [⟨g, cap, [-1]⟩] } := by
  obtain ⟨f0, f1, f2, f3, f4, f5, ff⟩ := h.fields
  have ff0 := ff 0
  have hgl := h.lt
  rw [Pic.hdr_none he] at f0
  have HH := hide h
  have HE := hide he
  have HP : Hid (∀ (W : World) (kb lb : Nat) (_ : Pic W M { L with kb := kb, ko := 0, kc := 1, bs := [⟨lb, 8, []⟩] }) (_ : M ≤ W.heap.size) (ty : TypeId), ∃ g cap W', (Builtin.append_ #[23, 23] ty #[.slice (some ⟨lb, 0, none⟩) 0 8, .slice (some ⟨W.heap.size, 0, none⟩) 1 1]).run Yba.prog (W.alloc (.cells #[.int .i64 (-1)] 2)) = .ok (.slice (some ⟨g, 0, none⟩) 1 cap) W' ∧
      W'.cell? ⟨kb, 0, none⟩ = some (.slice (some ⟨lb, 0, none⟩) 0 8) ∧ W'.frozen? ⟨kb, 0, none⟩ = false ∧
      Step M W (W'.setCell ⟨kb, 0, none⟩ (.slice (some ⟨g, 0, none⟩) 1 cap)) { L with kb := kb, ko := 0, kc := 1, bs := [⟨lb, 8, []⟩] } { L with kb := kb, ko := 0, kc := 1, bs := L.bs ++ [⟨g, cap, [-1]⟩] }) := fun W kb lb hW hMW ty => by
    have hb' : ({ L with kb := kb, ko := 0, kc := 1, bs := [⟨lb, 8, []⟩] } : Lay).bs[0]? = some ⟨lb, 8, []⟩ := by simp
    obtain ⟨g, cap, W', e1, e2, e3, e4⟩ := push_core hW hMW hb' (show 0 ≤ 5000 by omega) ty
    refine ⟨g, cap, W', e1, e2, e3, ?_⟩
    have e5 : ({ L with kb := kb, ko := 0, kc := 1, bs := [⟨lb, 8, []⟩] } : Lay).swap 0 ⟨g, cap, [] ++ [-1]⟩ = { L with kb := kb, ko := 0, kc := 1, bs := L.bs ++ [⟨g, cap, [-1]⟩] } := by
      unfold Lay.swap
      simp [he]
    rw [e5] at e4
    exact e4
  have hmk : ∀ W : World, (Instr.makeSlice 23 (.int .i64 0) (.int .i64 8)).run Yba.prog W = .ok (.slice (some ⟨W.heap.size, 0, none⟩) 0 8) (W.alloc (.cells (madeCells #[.int .i64 0] 8) 2)) := fun W => by
    obtain ⟨i0, hi0, hz0, hz1, hz2⟩ := info_parts info2
    have q := run_make (P := Yba.prog) W 23 2 i0 (.int .i64 0) Yba.underlying23 hi0 hz0 .i64 .i64 0 8 (by omega) (by omega) (by rw [hz2]; omega) (by omega)
    rw [hz1] at q
    simpa [Value.cells] using q
  clear h he
  have M0 : Hid (Mid M w ((w.setCell ⟨L.gb, 0, none⟩ (.slice (some ⟨w.heap.size, 0, none⟩) 1 1)).alloc (.cells #[.slice none 0 0, .int .i64 0] 41)) L) := mid_start HH.out hM
  go_enter Yba.func12, Yba.ntmps12
  go_upto_region 5 with fail
  have c1 := cell_of_cells M0.out.grp 0
  have c2 := cell_of_cells M0.out.row 0
  have c3 := M0.out.size
  have c4 := (Array.getElem?_eq_some_iff.1 M0.out.grp).1
  simp only [List.getElem?_toArray, List.getElem?_cons_zero] at c1 c2
  clear f0 f1 f2 f3 f4 f5 ff hgl ff0
  generalize (w.setCell ⟨L.gb, 0, none⟩ (.slice (some ⟨w.heap.size, 0, none⟩) 1 1)).alloc (.cells #[.slice none 0 0, .int .i64 0] 41) = W1 at *
  go_quiet (fail)
  have M1 : Hid (Mid M w (W1.drewN nq) L) := M0.out.up hM (below_drewN (Below.refl _ _) nq)
  have c2q : (W1.drewN nq).cell? ⟨w.heap.size, 0, none⟩ = some (.slice none 0 0) := c2
  have c3q : w.heap.size < (W1.drewN nq).heap.size := c3
  clear M0 c1 c2 c3 c4
  generalize W1.drewN nq = W2 at *
  go_upto_region 6 with fail
  go_quiet (fail)
  have M2 : Hid (Mid M w (W2.drewN nq) L) := M1.out.up hM (below_drewN (Below.refl _ _) nq)
  have c2r : (W2.drewN nq).cell? ⟨w.heap.size, 0, none⟩ = some (.slice none 0 0) := c2q
  have c3r : w.heap.size < (W2.drewN nq).heap.size := c3q
  clear M1 c2q c3q
  generalize W2.drewN nq = W3 at *
  obtain ⟨k1, k2, st⟩ := mid_first HH.out hM M2.out
  have ST := hide st
  clear st
  have hif : (if (4096 : Int) < (if IntKind.i64.wrap 0 < 8 then 8 else IntKind.i64.wrap 0) then 4096 else (if IntKind.i64.wrap 0 < 8 then 8 else IntKind.i64.wrap 0)) = 8 := by
    rw [IntKind.wrap_i64]
    decide
  have r7 : ∃ V, (Builtin.append_ #[23, 23] 23 #[.slice (some ⟨W3.heap.size, 0, none⟩) 0 8, .slice none 0 0]).run Yba.prog (W3.alloc (.cells (madeCells #[.int .i64 0] 8) 2)).drew = .ok (.slice (some ⟨W3.heap.size, 0, none⟩) 0 8) V ∧ V = (W3.alloc (.cells (madeCells #[.int .i64 0] 8) 2)).drew := ⟨_, append_nothing (W3.alloc (.cells (madeCells #[.int .i64 0] 8) 2)).drew W3.heap.size 23, rfl⟩
  obtain ⟨V, r7, hV⟩ := r7
  rw [← hV] at k1 k2 ST
  clear hV
  go_upto_region 7 with fail
  go_region_law (refine step_append_run rfl (.tmp 69) (.tmp 72) 23 rfl (by simp [Act.eval]) (by simp [Act.eval]) r7 ?_)
  all_goals
    have g1s : (V.setCell ⟨w.heap.size, 0, none⟩ (.slice (some ⟨W3.heap.size, 0, none⟩) 0 8)).cell? ⟨w.heap.size, 0, none⟩ = some (.slice (some ⟨W3.heap.size, 0, none⟩) 0 8) := World.cell?_setCell_same _ _ _ k1
    clear r7 k1 k2 c2r c3r hmk hif M2
    have g3s : w.heap.size < (V.setCell ⟨w.heap.size, 0, none⟩ (.slice (some ⟨W3.heap.size, 0, none⟩) 0 8)).heap.size := World.block_lt_of_cell? _ ⟨w.heap.size, 0, none⟩ g1s
    generalize V.setCell ⟨w.heap.size, 0, none⟩ (.slice (some ⟨W3.heap.size, 0, none⟩) 0 8) = W4 at *
    obtain ⟨g, cap, W5, r, k1, k2, st⟩ := HP.out W4 w.heap.size W3.heap.size ST.out.pic (Nat.le_trans hM ST.out.bel.size) 23
    have SS := hide (ST.out.trans st)
    clear st HP ST
    generalize W3.heap.size = lb' at *
    go_wp2_with (at_builtin; refine Lib.wpList_append_run _ rfl _ _ 23 23 rfl _ _ rfl rfl _ _ r ?_)
    all_goals
      go_end0
      exact ⟨rfl, _, _, _, g, cap, SS.out⟩
end Go.Proofs.Ybulkdcko
