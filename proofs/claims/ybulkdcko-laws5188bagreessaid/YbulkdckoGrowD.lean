/-
  THE WALK of grow, where the last block is full.
-/
import Derived.Test.YbulkdckoGrowC
namespace Go.Proofs.Ybulkdcko
open Go.RowKit

set_option maxHeartbeats 6400000 in
set_option maxRecDepth 100000 in
theorem grow_new {w : World} {M : Nat} {L : Lay} (h : Pic w M L) (hM : M ≤ w.heap.size) {b : Blk} (hlast : L.bs[L.bs.length - 1]? = some b) (h4 : b.ls.length = 4096) (hfw : L.bs.length < 1000) :
    Calls Yba.prog 12 #[.pointer (some ⟨L.gb, 0, none⟩)] w fun e w' => e = .returned (.tuple #[]) ∧ ∃ kb ko kc g cap, Step M w w' L { L with kb := kb, ko := ko, kc := kc, bs := L.bs ++ [⟨g, cap, [-1]⟩] } := by
  obtain ⟨f0, f1, f2, f3, f4, f5, ff⟩ := h.fields
  have ff0 := ff 0
  have hgl := h.lt
  have hm := List.mem_of_getElem? hlast
  have hne : L.bs ≠ [] := fun e => by rw [e] at hm; simp at hm
  have hn : 0 < L.bs.length := List.length_pos_iff.2 hne
  rw [Pic.hdr_some hne] at f0
  obtain ⟨g1, g2, g3, g4⟩ := h.blk hlast
  have hr4 := h.room
  have HH := hide h
  have HL := hide hlast
  have HP : Hid (∀ (W : World) (kb ko kc lb : Nat) (_ : Pic W M { L with kb := kb, ko := ko, kc := kc, bs := L.bs ++ [⟨lb, 4096, []⟩] }) (_ : M ≤ W.heap.size) (ty : TypeId), ∃ g cap W', (Builtin.append_ #[23, 23] ty #[.slice (some ⟨lb, 0, none⟩) 0 4096, .slice (some ⟨W.heap.size, 0, none⟩) 1 1]).run Yba.prog (W.alloc (.cells #[.int .i64 (-1)] 2)) = .ok (.slice (some ⟨g, 0, none⟩) 1 cap) W' ∧
      W'.cell? ⟨kb, ko + L.bs.length * 2, none⟩ = some (.slice (some ⟨lb, 0, none⟩) 0 4096) ∧ W'.frozen? ⟨kb, ko + L.bs.length * 2, none⟩ = false ∧
      Step M W (W'.setCell ⟨kb, ko + L.bs.length * 2, none⟩ (.slice (some ⟨g, 0, none⟩) 1 cap)) { L with kb := kb, ko := ko, kc := kc, bs := L.bs ++ [⟨lb, 4096, []⟩] } { L with kb := kb, ko := ko, kc := kc, bs := L.bs ++ [⟨g, cap, [-1]⟩] }) := fun W kb ko kc lb hW hMW ty => by
    have hb' : ({ L with kb := kb, ko := ko, kc := kc, bs := L.bs ++ [⟨lb, 4096, []⟩] } : Lay).bs[L.bs.length]? = some ⟨lb, 4096, []⟩ := by simp
    obtain ⟨g, cap, W', e1, e2, e3, e4⟩ := push_core hW hMW hb' (show 0 ≤ 5000 by omega) ty
    refine ⟨g, cap, W', e1, e2, e3, ?_⟩
    have e5 : ({ L with kb := kb, ko := ko, kc := kc, bs := L.bs ++ [⟨lb, 4096, []⟩] } : Lay).swap L.bs.length ⟨g, cap, [] ++ [-1]⟩ = { L with kb := kb, ko := ko, kc := kc, bs := L.bs ++ [⟨g, cap, [-1]⟩] } := by
      unfold Lay.swap
      simp
    rw [e5] at e4
    exact e4
  have hmk : ∀ W : World, (Instr.makeSlice 23 (.int .i64 0) (.int .i64 4096)).run Yba.prog W = .ok (.slice (some ⟨W.heap.size, 0, none⟩) 0 4096) (W.alloc (.cells (madeCells #[.int .i64 0] 4096) 2)) := fun W => by
    obtain ⟨i0, hi0, hz0, hz1, hz2⟩ := info_parts info2
    have q := run_make (P := Yba.prog) W 23 2 i0 (.int .i64 0) Yba.underlying23 hi0 hz0 .i64 .i64 0 4096 (by omega) (by omega) (by rw [hz2]; omega) (by omega)
    rw [hz1] at q
    simpa [Value.cells] using q
  have HN : Hid (∀ (W : World) (_ : Pic W M L) (_ : M ≤ W.heap.size) (W0 : World) (_ : W0 = ((W.alloc (.cells (madeCells #[.int .i64 0] 4096) 2)).alloc (.cells #[.slice (some ⟨W.heap.size, 0, none⟩) 0 4096, .int .i64 0] 41)).drew),
    ∃ kb ko kc W', (Builtin.append_ #[25, 25] 25 #[.slice (some ⟨L.kb, L.ko, none⟩) L.bs.length L.kc, .slice (some ⟨W.heap.size + 1, 0, none⟩) 1 1]).run Yba.prog W0 = .ok (.slice (some ⟨kb, ko, none⟩) (L.bs.length + 1) kc) W' ∧
      W'.cell? ⟨L.gb, 0, none⟩ = some (.slice (some ⟨L.kb, L.ko, none⟩) L.bs.length L.kc) ∧ W'.frozen? ⟨L.gb, 0, none⟩ = false ∧
      Step M W (W'.setCell ⟨L.gb, 0, none⟩ (.slice (some ⟨kb, ko, none⟩) (L.bs.length + 1) kc)) L { L with kb := kb, ko := ko, kc := kc, bs := L.bs ++ [⟨W.heap.size, 4096, []⟩] }) := fun W hW hMW W0 e => new_core hW hMW hne hfw 25 W0 e
  rw [h4] at g1
  clear h hne hm hlast
  obtain ⟨m, hmm⟩ : ∃ m, L.bs.length = m + 1 := ⟨L.bs.length - 1, by omega⟩
  rw [hmm] at f0 g1 g2 HP hfw hr4 HN
  simp only [Nat.add_sub_cancel] at g1 g2 HP
  have HMM := hide hmm
  clear hmm hn
  have q1 : (((m : Int) + 1) == 0) = false := by simpa using (show ((m : Int) + 1) ≠ 0 by omega)
  have q2 : ¬ ((m : Int) + 1 = 0) := by omega
  have hw : IntKind.i64.wrap (m : Int) = (m : Int) := by rw [IntKind.wrap_i64]; omega
  have hm1 : (m : Int) < (m : Int) + 1 := by omega
  obtain ⟨kb, ko, kc, W1, r4, k1, k2, st⟩ := HN.out w HH.out hM _ rfl
  have ST := hide st
  clear st HN
  go_enter Yba.func12, Yba.ntmps12
  go_upto_region 4 with fail
  go_region_law (refine step_append_run rfl (.tmp 33) (.tmp 36) 25 rfl (by simp [Act.eval]) (by simp [Act.eval]) r4 ?_)
  all_goals
    have H5 := ST.out.pic.fields.1
    rw [Pic.hdr_some (by simp)] at H5
    have H6 := (ST.out.pic.blk (i := m + 1) (b := ⟨w.heap.size, 4096, []⟩) (by rw [← HMM.out]; simp)).1
    have H7 := (ST.out.pic.blk (i := m + 1) (b := ⟨w.heap.size, 4096, []⟩) (by rw [← HMM.out]; simp)).2.2.1
    have H8 := ST.out.pic.lt
    have H9 := ST.out.pic.room
    simp only [List.length_append, List.length_cons, List.length_nil, Nat.zero_add, HMM.out] at H5 H6 H7 H8 H9
    clear r4 k1 k2 f0 f1 f2 f3 f4 f5 ff g1 g2 g3 g4 hgl hmk hr4
    generalize W1.setCell ⟨L.gb, 0, none⟩ (.slice (some ⟨kb, ko, none⟩) (m + 1 + 1) kc) = W2 at *
    have hw3 : IntKind.i64.wrap ((m : Int) + 1) = (m : Int) + 1 := by rw [IntKind.wrap_i64]; omega
    have hm3 : (m : Int) + 1 < (m : Int) + 1 + 1 := by omega
    have hlb : Hid (∃ lb, lb = w.heap.size) := ⟨_, rfl⟩
    obtain ⟨lb, hlb⟩ := hlb.out
    rw [← hlb] at ST H6
    have HB := hide hlb
    clear hlb
    go_upto_region 5 with fail
    go_quiet (fail)
    have S1 : Hid (Step M w (W2.drewN nq) L { L with kb := kb, ko := ko, kc := kc, bs := L.bs ++ [⟨lb, 4096, []⟩] }) := ST.out.trans (Step.grew ST.out.pic (below_drewN (Below.refl _ _) nq) (Nat.le_trans hM ST.out.bel.size))
    have g1q : (W2.drewN nq).cell? ⟨kb, ko + (m + 1) * 2, none⟩ = some (.slice (some ⟨lb, 0, none⟩) 0 4096) := H6
    have g3q : kb < (W2.drewN nq).heap.size := H7
    clear H5 H6 H7 H8 ST
    generalize W2.drewN nq = W3 at *
    go_upto_region 6 with fail
    go_quiet (fail)
    have S2 : Hid (Step M w (W3.drewN nq) L { L with kb := kb, ko := ko, kc := kc, bs := L.bs ++ [⟨lb, 4096, []⟩] }) := S1.out.trans (Step.grew S1.out.pic (below_drewN (Below.refl _ _) nq) (Nat.le_trans hM S1.out.bel.size))
    have g1r : (W3.drewN nq).cell? ⟨kb, ko + (m + 1) * 2, none⟩ = some (.slice (some ⟨lb, 0, none⟩) 0 4096) := g1q
    have g3r : kb < (W3.drewN nq).heap.size := g3q
    clear g1q g3q S1
    generalize W3.drewN nq = W4 at *
    obtain ⟨g, cap, W5, r, k1, k2, st⟩ := HP.out W4 kb ko kc lb S2.out.pic (Nat.le_trans hM S2.out.bel.size) 23
    have ST := hide (S2.out.trans st)
    clear st HP S2
    go_wp2_with (at_builtin; refine Lib.wpList_append_run _ rfl _ _ 23 23 rfl _ _ rfl rfl _ _ r ?_)
    all_goals
      go_end0
      exact ⟨rfl, kb, ko, kc, g, cap, ST.out⟩
end Go.Proofs.Ybulkdcko
