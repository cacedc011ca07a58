/-
  A VACANT LINE BEHIND THE LAST: the append of grow.
-/
import Derived.Test.YbulkdckoSwap
import Derived.Test.YbulkdckoRepeat
import Derived.Deep.AppendLies
import Derived.Deep.DeepAppendRoom
namespace Go.Proofs.Ybulkdcko
open Go.RowKit

def intV (x : Int) : Value := .int .i64 x
theorem heldOf_push (ls : List Int) : heldOf (ls ++ [-1]) = heldOf ls := by
  unfold heldOf
  rw [List.countP_append]
  simp
theorem own_of_lin {w : World} {M : Nat} {b : Blk} (hM : M ≤ b.lb) (h : b.cap ≤ maxLen ∧ b.ls.length ≤ b.cap ∧ ∃ cur, w.heap[b.lb]? = some (.cells cur 2 (0, 0)) ∧ cur.size = b.cap ∧ ∀ (j : Nat) (x : Int), b.ls[j]? = some x → cur[j]? = some (.int .i64 x)) :
    w.ownsRow M 2 1 (.slice (some ⟨b.lb, 0, none⟩) b.ls.length b.cap) b.ls.length (b.ls.map intV) := by
  obtain ⟨h1, h2, cur, h3, h4, h5⟩ := h
  refine ⟨by simp, .inr ⟨b.lb, b.cap, cur, rfl, hM, h3, h2, h1, by omega, ?_⟩⟩
  apply List.ext_getElem?
  intro j
  rw [Nat.mul_one, List.getElem?_take, List.getElem?_map]
  by_cases hj : j < b.ls.length
  · rw [if_pos hj, Array.getElem?_toList, h5 j _ (List.getElem?_eq_getElem hj), List.getElem?_eq_getElem hj]
    rfl
  · rw [if_neg hj, List.getElem?_eq_none (by omega)]
    rfl
theorem lin_of_own {w : World} {M g cap n : Nat} {ls : List Int} (hn : ls.length = n) (h : w.ownsRow M 2 1 (.slice (some ⟨g, 0, none⟩) n cap) n (ls.map intV)) :
    M ≤ g ∧ cap ≤ maxLen ∧ ls.length ≤ cap ∧ ∃ cur, w.heap[g]? = some (.cells cur 2 (0, 0)) ∧ cur.size = cap ∧ ∀ (j : Nat) (x : Int), ls[j]? = some x → cur[j]? = some (.int .i64 x) := by
  rcases h.2 with ⟨q, _⟩ | ⟨g', cap', cur, q, h1, h2, h3, h4, h5, h6⟩
  · cases q
  · injection q with q1 q2 q3
    injection q1 with q1
    injection q1 with q1
    subst q1 q3
    refine ⟨h1, h4, by omega, cur, h2, by omega, fun j x hj => ?_⟩
    have hj' := (List.getElem?_eq_some_iff.1 hj).1
    have := congrArg (fun l : List Value => l[j]?) h6
    simp only [Nat.mul_one, List.getElem?_take, List.getElem?_map, hj, Option.map_some, Array.getElem?_toList] at this
    rw [if_pos (by omega)] at this
    exact this

theorem push_core {w : World} {M : Nat} {L : Lay} (h : Pic w M L) (hM : M ≤ w.heap.size) {k : Nat} {b : Blk} (hb : L.bs[k]? = some b) (hl : b.ls.length ≤ 5000) (ty : TypeId) :
    ∃ g cap W, (Builtin.append_ #[23, 23] ty #[.slice (some ⟨b.lb, 0, none⟩) b.ls.length b.cap, .slice (some ⟨w.heap.size, 0, none⟩) 1 1]).run Yba.prog (w.alloc (.cells #[.int .i64 (-1)] 2)) = .ok (.slice (some ⟨g, 0, none⟩) (b.ls.length + 1) cap) W ∧
      W.cell? ⟨L.kb, L.ko + k * 2, none⟩ = some (.slice (some ⟨b.lb, 0, none⟩) b.ls.length b.cap) ∧ W.frozen? ⟨L.kb, L.ko + k * 2, none⟩ = false ∧
      Step M w (W.setCell ⟨L.kb, L.ko + k * 2, none⟩ (.slice (some ⟨g, 0, none⟩) (b.ls.length + 1) cap)) L (L.swap k ⟨g, cap, b.ls ++ [-1]⟩) := by
  have hm := List.mem_of_getElem? hb
  have hne : L.bs ≠ [] := fun e => by rw [e] at hm; simp at hm
  obtain ⟨z1, z2, z3⟩ := alloc1 w (.cells #[.int .i64 (-1)] 2)
  generalize w.alloc (.cells #[.int .i64 (-1)] 2) = W0 at *
  have p0 := h.up z2
  obtain ⟨i0, hi0, hz0, hz1, hz2⟩ := info_parts info2
  obtain ⟨g, cap, W, hr, h2, h3, h4, h5⟩ := run_append_lies (P := Yba.prog) W0 23 ty M 2 i0 (.int .i64 0) 1 8 Yba.underlying23 hi0 hz0 hz1 hz2 rfl (by decide) (.slice (some ⟨b.lb, 0, none⟩) b.ls.length b.cap) b.ls.length (b.ls.map intV) (own_of_lin (h.lol b hm) (p0.lin b hm)) ⟨w.heap.size, 0, none⟩ 1 1 [.int .i64 (-1)] rfl
    (fun j u hu => by
      have hj := (List.getElem?_eq_some_iff.1 hu).1
      have : j = 0 := by simpa using hj
      subst this
      simp only [List.getElem?_cons_zero, Option.some.injEq] at hu
      subst hu
      rw [Addr.add_lit]
      simp [World.cell?, z3])
    (fun u hu => by
      simp only [List.mem_cons, List.not_mem_nil, or_false] at hu
      subst hu
      rfl) (by omega) (by unfold maxLen; omega) (by omega) (by omega) W0.heap.size rfl
  have hkeep : ∀ x, x < W0.heap.size → x ≠ b.lb → W.heap[x]? = W0.heap[x]? := fun x hx hn => h3.block x hx (fun e => hn (by simpa [Value.ownBlock] using e))
  obtain ⟨cur, c1, c2, c3⟩ := p0.arr hne
  have hkl : L.kb < W0.heap.size := (Array.getElem?_eq_some_iff.1 c1).1
  have hk1 : W.heap[L.kb]? = some (.cells cur 41 (0, 0)) := (hkeep _ hkl (p0.ne_kl hm)).trans c1
  have hg1 : W.heap[L.gb]? = W0.heap[L.gb]? := hkeep _ p0.lt (p0.ne_l hm)
  have hmap : b.ls.map intV ++ [.int .i64 (-1)] = (b.ls ++ [-1]).map intV := by simp [intV]
  rw [hmap] at h2
  obtain ⟨q1, q2, q3, cur', q4, q5, q6⟩ := lin_of_own (by simp) h2
  have hgk : L.kb ≠ g := fun e => by
    rw [← e, hk1] at q4
    injection q4 with q4
    injection q4 with _ q7
    exact absurd q7 (by decide)
  have hgg : L.gb ≠ g := fun e => by
    rw [← e, hg1, p0.grp] at q4
    injection q4 with q4
    injection q4 with _ q7
    exact absurd q7 (by decide)
  have hfoot : g = b.lb ∨ w.heap.size ≤ g := by
    rcases h4 with q | q
    · left
      simpa [Value.ownBlock] using q.symm
    · right
      omega
  have hwl : ∀ c ∈ L.bs, c.lb < w.heap.size := fun c hc => by
    obtain ⟨_, _, cur, e1, _⟩ := h.lin c hc
    exact (Array.getElem?_eq_some_iff.1 e1).1
  refine ⟨g, cap, W, hr, by simp [World.cell?, hk1, (c3 k b hb).1], by simp [World.frozen?, hk1], ?_, ?_, fun x hx hn => ?_, fun x hx => ?_⟩
  · refine Pic.swap (b' := ⟨g, cap, b.ls ++ [-1]⟩) p0 hb (heldOf_push _) q2 q3 ⟨cur', (Below.heap_setCell _ _ _ _ hgk.symm).trans q4, q5, q6⟩ ?_ q1 ⟨cur, c1, ?_⟩ ?_ (fun c hc hcb => ?_)
    · rcases hfoot with q | q
      · exact .inl q
      · exact .inr (fun c hc e => by have := hwl c hc; simp only at e; omega)
    · rw [heap_set hk1]
      simp
    · rw [Below.heap_setCell _ _ _ _ (h.ne_k hne)]
      exact hg1
    · rw [Below.heap_setCell _ _ _ _ (h.ne_kl hc).symm]
      exact hkeep _ (by have := hwl c hc; omega) hcb
  · exact ((z2.mono hM).grown h3 (by omega) (fun q hq => by
      have : q = b.lb := by simpa [Value.ownBlock] using hq.symm
      rw [this]; exact h.lol b hm)).setCell (h.lok hne) _
  · rw [Below.heap_setCell _ _ _ _ (fun e => hn (.inr (.inl ⟨hne, e⟩))), hkeep x (by omega) (fun e => hn (.inr (.inr ⟨b, hm, e⟩)))]
    exact z2.block x hx
  · rcases hx with q | ⟨_, q⟩ | ⟨c, hc, q⟩
    · exact .inl (.inl q)
    · exact .inl (.inr (.inl ⟨hne, q⟩))
    · have hc' : c ∈ L.bs.set k ⟨g, cap, b.ls ++ [-1]⟩ := hc
      rcases List.mem_or_eq_of_mem_set hc' with r | rfl
      · exact .inl (.inr (.inr ⟨c, r, q⟩))
      · rcases hfoot with r | r
        · exact .inl (.inr (.inr ⟨b, hm, by rw [q]; exact r⟩))
        · exact .inr (by rw [q]; exact r)
end Go.Proofs.Ybulkdcko
