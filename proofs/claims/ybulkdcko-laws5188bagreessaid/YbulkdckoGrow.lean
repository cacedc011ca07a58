/-
  THE WALK of grow, where the last block has room or is moved.
-/
import Derived.Test.YbulkdckoPush
import Derived.Lib.AppendZeros
import Derived.OwnWalk
namespace Go.Proofs.Ybulkdcko
open Go.RowKit

theorem move_core {w : World} {M : Nat} {L : Lay} (h : Pic w M L) (hM : M ≤ w.heap.size) {k : Nat} {b : Blk} (hb : L.bs[k]? = some b) (c : Nat) (hc1 : b.ls.length ≤ c) (hc2 : c ≤ 4096) (ty : TypeId) :
    ∃ W, (Builtin.append_ #[23, 23] ty #[.slice (some ⟨w.heap.size, 0, none⟩) 0 c, .slice (some ⟨b.lb, 0, none⟩) b.ls.length b.cap]).run Yba.prog (w.drew.alloc (.cells (madeCells #[.int .i64 0] c) 2)) = .ok (.slice (some ⟨w.heap.size, 0, none⟩) b.ls.length c) W ∧
      W.cell? ⟨L.kb, L.ko + k * 2, none⟩ = some (.slice (some ⟨b.lb, 0, none⟩) b.ls.length b.cap) ∧ W.frozen? ⟨L.kb, L.ko + k * 2, none⟩ = false ∧
      Step M w (W.setCell ⟨L.kb, L.ko + k * 2, none⟩ (.slice (some ⟨w.heap.size, 0, none⟩) b.ls.length c)) L (L.swap k ⟨w.heap.size, c, b.ls⟩) := by
  have hm := List.mem_of_getElem? hb
  have hne : L.bs ≠ [] := fun e => by rw [e] at hm; simp at hm
  obtain ⟨z1, z2, z3⟩ := alloc1 w.drew (.cells (madeCells #[.int .i64 0] c) 2)
  have z2' : Below w.heap.size w (w.drew.alloc (.cells (madeCells #[.int .i64 0] c) 2)) := ((Below.refl _ _).drew).trans z2
  have z1' : (w.drew.alloc (.cells (madeCells #[.int .i64 0] c) 2)).heap.size = w.heap.size + 1 := z1
  have z3' : (w.drew.alloc (.cells (madeCells #[.int .i64 0] c) 2)).heap[w.heap.size]? = some (.cells (madeCells #[.int .i64 0] c) 2) := z3
  clear z1 z2 z3
  generalize w.drew.alloc (.cells (madeCells #[.int .i64 0] c) 2) = W0 at *
  have p0 := h.up z2'
  have hml : (madeCells #[.int .i64 0] c : Array Value).size = c := by rw [← Array.length_toList, toList_madeCells_one]; simp
  obtain ⟨i0, hi0, hz0, hz1, hz2⟩ := info_parts info2
  have hown0 : W0.ownsRow M 2 1 (.slice (some ⟨w.heap.size, 0, none⟩) 0 c) 0 [] := ⟨rfl, .inr ⟨w.heap.size, c, _, rfl, hM, z3', Nat.zero_le _, by unfold maxLen; omega, by omega, by simp⟩⟩
  have own := own_of_lin (h.lol b hm) (p0.lin b hm)
  obtain ⟨W, hr, h2, h3⟩ := run_append_own_spare (P := Yba.prog) W0 M 23 ty 2 i0 1 Yba.underlying23 hi0 hz1 w.heap.size 0 c [] hown0 ⟨b.lb, 0, none⟩ b.ls.length b.cap (b.ls.map intV) (by simp)
    (fun j u hu => own.cells rfl j u hu) (fun u hu => by
      obtain ⟨x, _, rfl⟩ := List.mem_map.1 hu
      rfl) (by omega)
  simp only [Nat.zero_add, List.nil_append] at hr h2
  have hkeep : ∀ x, x < W0.heap.size → x ≠ w.heap.size → W.heap[x]? = W0.heap[x]? := fun x hx hn => h3.block x hx (fun e => hn (by simpa using e))
  obtain ⟨cur, c1, c2, c3⟩ := p0.arr hne
  have hkw : L.kb < w.heap.size := by
    obtain ⟨cur', e1, _⟩ := h.arr hne
    exact (Array.getElem?_eq_some_iff.1 e1).1
  have hk1 : W.heap[L.kb]? = some (.cells cur 41 (0, 0)) := (hkeep _ (by omega) (by omega)).trans c1
  have hgw := h.lt
  have hg1 : W.heap[L.gb]? = W0.heap[L.gb]? := hkeep _ (by omega) (by omega)
  obtain ⟨q1, q2, q3, cur', q4, q5, q6⟩ := lin_of_own rfl h2
  have hwl : ∀ x ∈ L.bs, x.lb < w.heap.size := fun x hx => by
    obtain ⟨_, _, cur, e1, _⟩ := h.lin x hx
    exact (Array.getElem?_eq_some_iff.1 e1).1
  refine ⟨W, hr, by simp [World.cell?, hk1, (c3 k b hb).1], by simp [World.frozen?, hk1], ?_, ?_, fun x hx hn => ?_, fun x hx => ?_⟩
  · refine Pic.swap (b' := ⟨w.heap.size, c, b.ls⟩) p0 hb rfl q2 q3 ⟨cur', (Below.heap_setCell _ _ _ _ (by simp only; omega)).trans q4, q5, q6⟩ (.inr fun x hx e => by have := hwl x hx; simp only at e; omega) hM ⟨cur, c1, ?_⟩ ?_ (fun x hx hxb => ?_)
    · rw [heap_set hk1]
    · rw [Below.heap_setCell _ _ _ _ (h.ne_k hne)]
      exact hg1
    · rw [Below.heap_setCell _ _ _ _ (h.ne_kl hx).symm]
      exact hkeep _ (by have := hwl x hx; omega) (by have := hwl x hx; omega)
  · exact ((z2'.mono hM).grown h3 (by omega) (fun q hq => by
      have : w.heap.size = q := by simpa using hq
      omega)).setCell (h.lok hne) _
  · rw [Below.heap_setCell _ _ _ _ (fun e => hn (.inr (.inl ⟨hne, e⟩))), hkeep x (by omega) (by omega)]
    exact z2'.block x hx
  · rcases hx with q | ⟨_, q⟩ | ⟨x', hc, q⟩
    · exact .inl (.inl q)
    · exact .inl (.inr (.inl ⟨hne, q⟩))
    · have hc' : x' ∈ L.bs.set k ⟨w.heap.size, c, b.ls⟩ := hc
      rcases List.mem_or_eq_of_mem_set hc' with r | rfl
      · exact .inl (.inr (.inr ⟨x', r, q⟩))
      · exact .inr (by rw [q]; exact Nat.le_refl _)

set_option maxHeartbeats 6400000 in
set_option maxRecDepth 100000 in
theorem grow_room {w : World} {M : Nat} {L : Lay} (h : Pic w M L) (hM : M ≤ w.heap.size) {b : Blk} (hlast : L.bs[L.bs.length - 1]? = some b) (h4 : b.ls.length < 4096) (hroom : b.ls.length ≠ b.cap) :
    Calls Yba.prog 12 #[.pointer (some ⟨L.gb, 0, none⟩)] w fun e w' => e = .returned (.tuple #[]) ∧ ∃ g cap, Step M w w' L (L.swap (L.bs.length - 1) ⟨g, cap, b.ls ++ [-1]⟩) := by
  obtain ⟨f0, f1, f2, f3, f4, f5, ff⟩ := h.fields
  have hgl := h.lt
  have hm := List.mem_of_getElem? hlast
  have hne : L.bs ≠ [] := fun e => by rw [e] at hm; simp at hm
  have hn : 0 < L.bs.length := List.length_pos_iff.2 hne
  rw [Pic.hdr_some hne] at f0
  obtain ⟨g1, g2, g3, g4⟩ := h.blk hlast
  have hfew := h.few
  have hr4 := h.room
  have HH := hide h
  have HL := hide hlast
  have hcap := (h.lin b hm).2.1
  have hcm := (h.lin b hm).1
  have HP : Hid (∀ (W : World) (_ : Pic W M L) (_ : M ≤ W.heap.size) (ty : TypeId), ∃ g cap W', (Builtin.append_ #[23, 23] ty #[.slice (some ⟨b.lb, 0, none⟩) b.ls.length b.cap, .slice (some ⟨W.heap.size, 0, none⟩) 1 1]).run Yba.prog (W.alloc (.cells #[.int .i64 (-1)] 2)) = .ok (.slice (some ⟨g, 0, none⟩) (b.ls.length + 1) cap) W' ∧
      W'.cell? ⟨L.kb, L.ko + (L.bs.length - 1) * 2, none⟩ = some (.slice (some ⟨b.lb, 0, none⟩) b.ls.length b.cap) ∧ W'.frozen? ⟨L.kb, L.ko + (L.bs.length - 1) * 2, none⟩ = false ∧
      Step M W (W'.setCell ⟨L.kb, L.ko + (L.bs.length - 1) * 2, none⟩ (.slice (some ⟨g, 0, none⟩) (b.ls.length + 1) cap)) L (L.swap (L.bs.length - 1) ⟨g, cap, b.ls ++ [-1]⟩)) := fun W hW hMW ty => push_core hW hMW hlast (by omega) ty
  clear h hne hm hlast
  obtain ⟨m, hmm⟩ : ∃ m, L.bs.length = m + 1 := ⟨L.bs.length - 1, by omega⟩
  rw [hmm] at f0 g1 g2 HP hfew hr4 ⊢
  simp only [Nat.add_sub_cancel] at g1 g2 HP ⊢
  have HMM := hide hmm
  clear hmm hn
  have q1 : (((m : Int) + 1) == 0) = false := by simpa using (show ((m : Int) + 1) ≠ 0 by omega)
  have q2 : ¬ ((m : Int) + 1 = 0) := by omega
  have hw : IntKind.i64.wrap (m : Int) = (m : Int) := by rw [IntKind.wrap_i64]; omega
  have hm1 : (m : Int) < (m : Int) + 1 := by omega
  have q3 : ((b.ls.length : Int) == 4096) = false := by simpa using (show (b.ls.length : Int) ≠ 4096 by omega)
  have q4 : ¬ (b.ls.length : Int) = 4096 := by omega
  have q5 : ((b.ls.length : Int) == (b.cap : Int)) = false := by simpa using (show (b.ls.length : Int) ≠ (b.cap : Int) by omega)
  have q6 : ¬ (b.ls.length : Int) = (b.cap : Int) := by omega
  go_enter Yba.func12, Yba.ntmps12
  go_upto_region 5 with fail
  go_quiet (fail)
  have S1 : Hid (Step M w (w.drewN nq) L L) := Step.grew HH.out (below_drewN (Below.refl _ _) nq) hM
  have g1q : (w.drewN nq).cell? ⟨L.kb, L.ko + m * 2, none⟩ = some (.slice (some ⟨b.lb, 0, none⟩) b.ls.length b.cap) := g1
  have g3q : L.kb < (w.drewN nq).heap.size := g3
  clear g1 g2 g3 g4 f0 f1 f2 f3 f4 f5 ff
  generalize w.drewN nq = W1 at *
  go_upto_region 6 with fail
  go_quiet (fail)
  have S2 : Hid (Step M w (W1.drewN nq) L L) := S1.out.trans (Step.grew S1.out.pic (below_drewN (Below.refl _ _) nq) (Nat.le_trans hM S1.out.bel.size))
  have g1r : (W1.drewN nq).cell? ⟨L.kb, L.ko + m * 2, none⟩ = some (.slice (some ⟨b.lb, 0, none⟩) b.ls.length b.cap) := g1q
  have g3r : L.kb < (W1.drewN nq).heap.size := g3q
  clear g1q g3q S1
  generalize W1.drewN nq = W2 at *
  obtain ⟨g, cap, W3, r, k1, k2, st⟩ := HP.out W2 S2.out.pic (Nat.le_trans hM S2.out.bel.size) 23
  have ST := hide (S2.out.trans st)
  clear st HP S2
  go_wp2_with (at_builtin; refine Lib.wpList_append_run _ rfl _ _ 23 23 rfl _ _ rfl rfl _ _ r ?_)
  go_end0
  exact ⟨rfl, g, cap, ST.out⟩
end Go.Proofs.Ybulkdcko
