/-
  THE PICTURE KEPT: a block's lines set anew (grown, moved).
-/
import Derived.Test.YbulkdckoPut
namespace Go.Proofs.Ybulkdcko
open Go.RowKit

/-- the block k with other lines -/
def Lay.swap (L : Lay) (k : Nat) (b : Blk) : Lay := { L with bs := L.bs.set k b }
theorem hdr_swap (L : Lay) (k : Nat) (b : Blk) : (L.swap k b).hdr = L.hdr := by
  unfold Lay.hdr Lay.swap
  simp only [List.length_set]
  by_cases h : L.bs = []
  · simp [h]
  · rw [if_neg h, if_neg (by simpa using h)]
/-- the lines of b' lie in W; the cell of block k names them; all else that the group owns is as it was -/
theorem Pic.swap {w W : World} {M : Nat} {L : Lay} (h : Pic w M L) {k : Nat} {b b' : Blk} (hb : L.bs[k]? = some b) (hh : heldOf b'.ls = heldOf b.ls)
    (hcap : b'.cap ≤ maxLen) (hlen : b'.ls.length ≤ b'.cap) (hrow : ∃ cur, W.heap[b'.lb]? = some (.cells cur 2 (0, 0)) ∧ cur.size = b'.cap ∧ ∀ (j : Nat) (x : Int), b'.ls[j]? = some x → cur[j]? = some (.int .i64 x))
    (hnew : b'.lb = b.lb ∨ ∀ c ∈ L.bs, b'.lb ≠ c.lb) (hM : M ≤ b'.lb) (hkb : ∃ cur, w.heap[L.kb]? = some (.cells cur 41 (0, 0)) ∧ W.heap[L.kb]? = some (.cells (cur.setIfInBounds (L.ko + k * 2) (.slice (some ⟨b'.lb, 0, none⟩) b'.ls.length b'.cap)) 41 (0, 0)))
    (hgb : W.heap[L.gb]? = w.heap[L.gb]?) (hoth : ∀ c ∈ L.bs, c.lb ≠ b.lb → W.heap[c.lb]? = w.heap[c.lb]?) : Pic W M (L.swap k b') := by
  have hk : k < L.bs.length := (List.getElem?_eq_some_iff.1 hb).1
  have hm := List.mem_of_getElem? hb
  have hne : L.bs ≠ [] := fun e => by rw [e] at hm; simp at hm
  have hnd := h.nd
  have inj : ∀ (i : Nat) (c : Blk), L.bs[i]? = some c → i ≠ k → c.lb ≠ b.lb := fun i c hi hik e => by
    have hil : i < L.bs.length := (List.getElem?_eq_some_iff.1 hi).1
    have e1 : (L.bs.map (·.lb))[i]'(by simpa using hil) = (L.bs.map (·.lb))[k]'(by simpa using hk) := by
      simp only [List.getElem_map]
      rw [List.getElem?_eq_getElem hil] at hi
      rw [List.getElem?_eq_getElem hk] at hb
      rw [Option.some.inj hi, Option.some.inj hb, e]
    rcases Nat.lt_or_gt_of_ne hik with q | q
    · exact List.pairwise_iff_getElem.1 hnd i k (by simpa using hil) (by simpa using hk) q e1
    · exact List.pairwise_iff_getElem.1 hnd k i (by simpa using hk) (by simpa using hil) q e1.symm
  have hlb' : ∀ (i : Nat) (c : Blk), L.bs[i]? = some c → i ≠ k → b'.lb ≠ c.lb := fun i c hi hik => by
    rcases hnew with q | q
    · rw [q]; exact (inj i c hi hik).symm
    · exact q c (List.mem_of_getElem? hi)
  refine ⟨?_, fun _ => ?_, by simpa [Lay.swap] using h.room, h.small, by simpa [Lay.swap] using h.few, fun c hc => ?_, ?_, h.lo, fun _ => h.lok hne, fun c hc => ?_⟩
  · show W.heap[L.gb]? = _
    rw [hgb, h.grp, hdr_swap]
    rfl
  · obtain ⟨cur, c1, c2⟩ := hkb
    obtain ⟨cur0, p1, p2, p3⟩ := h.arr hne
    rw [c1] at p1
    injection p1 with p1
    injection p1 with p1
    subst p1
    refine ⟨_, c2, by simpa [Lay.swap] using p2, fun i c hc => ?_⟩
    have hc' : (L.bs.set k b')[i]? = some c := hc
    show (cur.setIfInBounds (L.ko + k * 2) (.slice (some ⟨b'.lb, 0, none⟩) b'.ls.length b'.cap))[L.ko + i * 2]? = _ ∧ (cur.setIfInBounds (L.ko + k * 2) (.slice (some ⟨b'.lb, 0, none⟩) b'.ls.length b'.cap))[L.ko + i * 2 + 1]? = _
    by_cases hik : i = k
    · subst hik
      rw [List.getElem?_set_self hk] at hc'
      obtain rfl := Option.some.inj hc'
      obtain ⟨q1, q2⟩ := p3 i b hb
      have : L.ko + i * 2 < cur.size := (Array.getElem?_eq_some_iff.1 q1).1
      exact ⟨Array.getElem?_setIfInBounds_self_of_lt this, by rw [Array.getElem?_setIfInBounds_ne (by omega), q2, hh]⟩
    · rw [List.getElem?_set_ne (fun e => hik e.symm)] at hc'
      obtain ⟨q1, q2⟩ := p3 i c hc'
      exact ⟨by rw [Array.getElem?_setIfInBounds_ne (by omega)]; exact q1, by rw [Array.getElem?_setIfInBounds_ne (by omega)]; exact q2⟩
  · have hc' : c ∈ L.bs.set k b' := hc
    obtain ⟨i, hi⟩ := List.mem_iff_getElem?.1 hc'
    by_cases hik : i = k
    · subst hik
      rw [List.getElem?_set_self hk] at hi
      obtain rfl := Option.some.inj hi
      exact ⟨hcap, hlen, hrow⟩
    · rw [List.getElem?_set_ne (fun e => hik e.symm)] at hi
      obtain ⟨p1, p2, cur, p3, p4⟩ := h.lin c (List.mem_of_getElem? hi)
      exact ⟨p1, p2, cur, (hoth c (List.mem_of_getElem? hi) (inj i c hi hik)).trans p3, p4⟩
  · show ((L.bs.set k b').map (·.lb)).Nodup
    rw [List.map_set]
    refine List.pairwise_iff_getElem.2 fun i j hi hj hij => ?_
    have hi' : i < L.bs.length := by simpa using hi
    have hj' : j < L.bs.length := by simpa using hj
    rw [List.getElem_set, List.getElem_set]
    by_cases e1 : k = i
    · rw [if_pos e1, if_neg (by omega)]
      simp only [List.getElem_map]
      exact hlb' j _ (List.getElem?_eq_getElem hj') (by omega)
    · by_cases e2 : k = j
      · rw [if_neg e1, if_pos e2]
        simp only [List.getElem_map]
        exact (hlb' i _ (List.getElem?_eq_getElem hi') (by omega)).symm
      · rw [if_neg e1, if_neg e2]
        exact List.pairwise_iff_getElem.1 hnd i j (by simpa using hi') (by simpa using hj') hij
  · have hc' : c ∈ L.bs.set k b' := hc
    rcases List.mem_or_eq_of_mem_set hc' with q | rfl
    · exact h.lol c q
    · exact hM
end Go.Proofs.Ybulkdcko
