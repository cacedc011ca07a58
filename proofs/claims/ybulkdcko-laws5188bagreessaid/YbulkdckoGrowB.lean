/-
  THE WALK of grow, where the last block's lines are moved.
-/
import Derived.Test.YbulkdckoGrow
import Derived.Laws.MakeOwn
import Derived.Deep.RegionLaw
namespace Go.Proofs.Ybulkdcko
open Go.RowKit

theorem step_append_run {P : Program} {ops : Array Oper} {o : Oper} {a : Act} {w w' : World} {K : Act → World → Prop} {Q : Exit → Act → World → Prop} {E : Prop}
    (hg : o.guard = none) (s x : Operand) (t : TypeId) (hop : o.op = Op.call { callee := Callee.builtin Builtin.append, args := #[s, x], argTypes := #[t, t] })
    {v u v' : Value} (hs : a.eval s = v) (hx : a.eval x = u) (hr : (Builtin.append_ #[t, t] o.type #[v, u]).run P w = .ok v' w') (hK : K (a.put o.dst v') w') :
    if Region.wanted o (yielded ops a.tmps) = true then Oper.wp P o a w K Q else E := by
  have hw : Region.wanted o (yielded ops a.tmps) = true := by simp [Region.wanted, hg]
  rw [if_pos hw]
  unfold Oper.wp
  simp [execOp, hop, resolve, invoke, builtin, hs, hx, hr, Result.andThen]
  exact hK

set_option maxHeartbeats 6400000 in
set_option maxRecDepth 100000 in
theorem grow_move {w : World} {M : Nat} {L : Lay} (h : Pic w M L) (hM : M ≤ w.heap.size) {b : Blk} (hlast : L.bs[L.bs.length - 1]? = some b) (h4 : b.ls.length < 4096) (hfull : b.ls.length = b.cap) (hpos : 0 < b.ls.length) :
    Calls Yba.prog 12 #[.pointer (some ⟨L.gb, 0, none⟩)] w fun e w' => e = .returned (.tuple #[]) ∧ ∃ g cap, Step M w w' L (L.swap (L.bs.length - 1) ⟨g, cap, b.ls ++ [-1]⟩) := by
  obtain ⟨f0, f1, f2, f3, f4, f5, ff⟩ := h.fields
  have hgl := h.lt
  have hm := List.mem_of_getElem? hlast
  have hne : L.bs ≠ [] := fun e => by rw [e] at hm; simp at hm
  have hn : 0 < L.bs.length := List.length_pos_iff.2 hne
  rw [Pic.hdr_some hne] at f0
  obtain ⟨g1, g2, g3, g4⟩ := h.blk hlast
  have hfew := h.few
  have hr4 := h.room
  have HH := hide h
  have HL := hide hlast
  have hcap := (h.lin b hm).2.1
  have hcm := (h.lin b hm).1
  obtain ⟨c', hc'⟩ : ∃ c' : Nat, c' = min (max (2 * b.cap) 8) 4096 := ⟨_, rfl⟩
  have hcc1 : b.ls.length ≤ c' := by omega
  have hcc2 : c' ≤ 4096 := by omega
  have hkl : L.bs.length - 1 < L.bs.length := by omega
  have HQ : Hid (∀ (W : World) (_ : Pic W M L) (_ : M ≤ W.heap.size) (ty : TypeId), ∃ W', (Builtin.append_ #[23, 23] ty #[.slice (some ⟨W.heap.size, 0, none⟩) 0 c', .slice (some ⟨b.lb, 0, none⟩) b.ls.length b.cap]).run Yba.prog (W.drew.alloc (.cells (madeCells #[.int .i64 0] c') 2)) = .ok (.slice (some ⟨W.heap.size, 0, none⟩) b.ls.length c') W' ∧
      W'.cell? ⟨L.kb, L.ko + (L.bs.length - 1) * 2, none⟩ = some (.slice (some ⟨b.lb, 0, none⟩) b.ls.length b.cap) ∧ W'.frozen? ⟨L.kb, L.ko + (L.bs.length - 1) * 2, none⟩ = false ∧
      Step M W (W'.setCell ⟨L.kb, L.ko + (L.bs.length - 1) * 2, none⟩ (.slice (some ⟨W.heap.size, 0, none⟩) b.ls.length c')) L (L.swap (L.bs.length - 1) ⟨W.heap.size, c', b.ls⟩)) := fun W hW hMW ty => move_core hW hMW hlast c' hcc1 hcc2 ty
  have HP : Hid (∀ (W : World) (lb' : Nat) (_ : Pic W M (L.swap (L.bs.length - 1) ⟨lb', c', b.ls⟩)) (_ : M ≤ W.heap.size) (ty : TypeId), ∃ g cap W', (Builtin.append_ #[23, 23] ty #[.slice (some ⟨lb', 0, none⟩) b.ls.length c', .slice (some ⟨W.heap.size, 0, none⟩) 1 1]).run Yba.prog (W.alloc (.cells #[.int .i64 (-1)] 2)) = .ok (.slice (some ⟨g, 0, none⟩) (b.ls.length + 1) cap) W' ∧
      W'.cell? ⟨L.kb, L.ko + (L.bs.length - 1) * 2, none⟩ = some (.slice (some ⟨lb', 0, none⟩) b.ls.length c') ∧ W'.frozen? ⟨L.kb, L.ko + (L.bs.length - 1) * 2, none⟩ = false ∧
      Step M W (W'.setCell ⟨L.kb, L.ko + (L.bs.length - 1) * 2, none⟩ (.slice (some ⟨g, 0, none⟩) (b.ls.length + 1) cap)) (L.swap (L.bs.length - 1) ⟨lb', c', b.ls⟩) (L.swap (L.bs.length - 1) ⟨g, cap, b.ls ++ [-1]⟩)) := fun W lb' hW hMW ty => by
    have hb' : (L.swap (L.bs.length - 1) ⟨lb', c', b.ls⟩).bs[L.bs.length - 1]? = some ⟨lb', c', b.ls⟩ := List.getElem?_set_self hkl
    obtain ⟨g, cap, W', e1, e2, e3, e4⟩ := push_core hW hMW hb' (show b.ls.length ≤ 5000 by omega) ty
    refine ⟨g, cap, W', e1, e2, e3, ?_⟩
    have e5 : (L.swap (L.bs.length - 1) ⟨lb', c', b.ls⟩).swap (L.bs.length - 1) ⟨g, cap, b.ls ++ [-1]⟩ = L.swap (L.bs.length - 1) ⟨g, cap, b.ls ++ [-1]⟩ := by
      unfold Lay.swap
      simp [List.set_set]
    rw [e5] at e4
    exact e4
  have hmk : ∀ W : World, (Instr.makeSlice 23 (.int .i64 0) (.int .i64 (c' : Nat))).run Yba.prog W = .ok (.slice (some ⟨W.heap.size, 0, none⟩) 0 c') (W.alloc (.cells (madeCells #[.int .i64 0] c') 2)) := fun W => by
    obtain ⟨i0, hi0, hz0, hz1, hz2⟩ := info_parts info2
    have q := run_make (P := Yba.prog) W 23 2 i0 (.int .i64 0) Yba.underlying23 hi0 hz0 .i64 .i64 0 (c' : Nat) (by omega) (by omega) (by rw [hz2]; omega) (by omega)
    rw [hz1] at q
    simpa [Value.cells] using q
  have hif : (if (4096 : Int) < (if 2 * (b.cap : Int) < 8 then 8 else 2 * (b.cap : Int)) then 4096 else (if 2 * (b.cap : Int) < 8 then 8 else 2 * (b.cap : Int))) = (c' : Int) := by
    split <;> split at * <;> omega
  have hw2 : IntKind.i64.wrap (2 * (b.cap : Int)) = 2 * (b.cap : Int) := by rw [IntKind.wrap_i64]; omega
  have HC := hide hc'
  clear hc'
  clear h hne hm hlast
  obtain ⟨m, hmm⟩ : ∃ m, L.bs.length = m + 1 := ⟨L.bs.length - 1, by omega⟩
  rw [hmm] at f0 g1 g2 HP HQ hfew hr4 ⊢
  simp only [Nat.add_sub_cancel] at g1 g2 HP HQ ⊢
  have HMM := hide hmm
  clear hmm hn hkl
  have q1 : (((m : Int) + 1) == 0) = false := by simpa using (show ((m : Int) + 1) ≠ 0 by omega)
  have q2 : ¬ ((m : Int) + 1 = 0) := by omega
  have hw : IntKind.i64.wrap (m : Int) = (m : Int) := by rw [IntKind.wrap_i64]; omega
  have hm1 : (m : Int) < (m : Int) + 1 := by omega
  have q3 : ((b.ls.length : Int) == 4096) = false := by simpa using (show (b.ls.length : Int) ≠ 4096 by omega)
  have q4 : ¬ (b.ls.length : Int) = 4096 := by omega
  go_enter Yba.func12, Yba.ntmps12
  go_upto_region 5 with fail
  go_quiet (fail)
  have S1 : Hid (Step M w (w.drewN nq) L L) := Step.grew HH.out (below_drewN (Below.refl _ _) nq) hM
  have g1q : (w.drewN nq).cell? ⟨L.kb, L.ko + m * 2, none⟩ = some (.slice (some ⟨b.lb, 0, none⟩) b.ls.length b.cap) := g1
  have g3q : L.kb < (w.drewN nq).heap.size := g3
  clear g1 g2 g3 g4 f0 f1 f2 f3 f4 f5 ff
  generalize w.drewN nq = W1 at *
  go_upto_region 6 with fail
  go_quiet (fail)
  have S2 : Hid (Step M w (W1.drewN nq) L L) := S1.out.trans (Step.grew S1.out.pic (below_drewN (Below.refl _ _) nq) (Nat.le_trans hM S1.out.bel.size))
  have g1r : (W1.drewN nq).cell? ⟨L.kb, L.ko + m * 2, none⟩ = some (.slice (some ⟨b.lb, 0, none⟩) b.ls.length b.cap) := g1q
  have g3r : L.kb < (W1.drewN nq).heap.size := g3q
  clear g1q g3q S1
  generalize W1.drewN nq = W2 at *
  rw [hfull] at g1r HQ HP
  obtain ⟨W3, r7, k7, k8, st7⟩ := HQ.out W2 S2.out.pic (Nat.le_trans hM S2.out.bel.size) 23
  have ST7 := hide (S2.out.trans st7)
  have r7' : (Builtin.append_ #[23, 23] 23 #[.slice (some ⟨W2.heap.size, 0, none⟩) 0 c', .slice (some ⟨b.lb, 0, none⟩) b.cap b.cap]).run Yba.prog (W2.alloc (.cells (madeCells #[.int .i64 0] c') 2)).drew = .ok (.slice (some ⟨W2.heap.size, 0, none⟩) b.cap c') W3 := r7
  clear st7 HQ S2
  go_upto_region 7 with fail
  go_region_law (refine step_append_run rfl (.tmp 69) (.tmp 72) 23 rfl (by simp [Act.eval, Act.put]) (by simp [Act.eval, Act.put]) r7' ?_)
  all_goals
    have g1s : (W3.setCell ⟨L.kb, L.ko + m * 2, none⟩ (.slice (some ⟨W2.heap.size, 0, none⟩) b.cap c')).cell? ⟨L.kb, L.ko + m * 2, none⟩ = some (.slice (some ⟨W2.heap.size, 0, none⟩) b.cap c') := World.cell?_setCell_same W3 _ _ k7
    clear r7 r7' k7 k8 g1r hmk hif
    generalize W3.setCell ⟨L.kb, L.ko + m * 2, none⟩ (.slice (some ⟨W2.heap.size, 0, none⟩) b.cap c') = W4 at *
    obtain ⟨g, cap, W5, r, k1, k2, st⟩ := HP.out W4 W2.heap.size ST7.out.pic (Nat.le_trans hM ST7.out.bel.size) 23
    have ST := hide (ST7.out.trans st)
    have g3s : L.kb < W4.heap.size := World.block_lt_of_cell? W4 ⟨L.kb, L.ko + m * 2, none⟩ g1s
    clear st HP ST7
    generalize W2.heap.size = lb' at *
    go_wp2_with (at_builtin; refine Lib.wpList_append_run _ rfl _ _ 23 23 rfl _ _ rfl rfl _ _ r ?_)
    all_goals
      go_end0
      exact ⟨rfl, g, cap, ST.out⟩
end Go.Proofs.Ybulkdcko
