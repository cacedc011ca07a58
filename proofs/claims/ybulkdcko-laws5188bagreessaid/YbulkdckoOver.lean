/-
  A LINE SET WHERE THE COUNT OF HELD LINES STAYS.
-/
import Derived.Test.YbulkdckoSwap
namespace Go.Proofs.Ybulkdcko
open Go.RowKit

theorem set_same {cur : Array Value} {i : Nat} {v : Value} (h : cur[i]? = some v) : cur.setIfInBounds i v = cur := by
  apply Array.ext_getElem?
  intro j
  by_cases e : i = j
  · subst e
    rw [Array.getElem?_setIfInBounds_self_of_lt (Array.getElem?_eq_some_iff.1 h).1, h]
  · rw [Array.getElem?_setIfInBounds_ne e]
theorem heldOf_over : ∀ {ls : List Int} {j : Nat} {x y : Int}, ls[j]? = some x → x ≠ -1 → y ≠ -1 → heldOf (ls.set j y) = heldOf ls
  | [], _, _, _, h, _, _ => by simp at h
  | a :: ls, 0, x, y, h, hx, hy => by
    simp at h
    subst h
    simp [heldOf, hx, hy]
  | a :: ls, j + 1, x, y, h, hx, hy => by
    have ih := heldOf_over (ls := ls) (j := j) (x := x) (y := y) (by simpa using h) hx hy
    unfold heldOf at *
    simp only [List.set_cons_succ, List.countP_cons]
    omega
theorem heldOf_fill : ∀ {ls : List Int} {j : Nat} {y : Int}, ls[j]? = some (-1) → y ≠ -1 → heldOf (ls.set j y) = heldOf ls + 1
  | [], _, _, h, _ => by simp at h
  | a :: ls, 0, y, h, hy => by
    simp at h
    subst h
    simp [heldOf, hy]
  | a :: ls, j + 1, y, h, hy => by
    have ih := heldOf_fill (ls := ls) (j := j) (y := y) (by simpa using h) hy
    unfold heldOf at *
    simp only [List.set_cons_succ, List.countP_cons]
    omega
theorem step_over {M : Nat} {w : World} {L : Lay} (h : Pic w M L) {k : Nat} {b : Blk} (hb : L.bs[k]? = some b) {j : Nat} (hj : j < b.ls.length) (y : Int) (hh : heldOf (b.ls.set j y) = heldOf b.ls) :
    Step M w (w.setCell ⟨b.lb, j, none⟩ (.int .i64 y)) L (L.put k b j y) := by
  have hm := List.mem_of_getElem? hb
  have hne : L.bs ≠ [] := fun e => by rw [e] at hm; simp at hm
  have n2 := h.ne_l hm
  have n3 := h.ne_kl hm
  refine ⟨?_, (Below.refl _ _).setCell (h.lol b hm) _, fun x _ hn => Below.heap_setCell _ _ _ _ (fun e => hn (.inr (.inr ⟨b, hm, e⟩))), fun x hx => .inl ?_⟩
  · obtain ⟨p1, p2, cur, p3, p4, p5⟩ := h.lin b hm
    obtain ⟨cur', c1, c2, c3⟩ := h.arr hne
    refine Pic.swap (b' := { b with ls := b.ls.set j y }) h hb hh p1 (by simpa using p2) ⟨cur.setIfInBounds j (.int .i64 y), heap_set p3 _, by simpa using p4, fun j' x' hx' => ?_⟩ (.inl rfl) (h.lol b hm) ⟨cur', c1, ?_⟩ (Below.heap_setCell _ _ _ _ n2) (fun c hc hcb => Below.heap_setCell _ _ _ _ hcb)
    · have hx'' : (b.ls.set j y)[j']? = some x' := hx'
      by_cases hjj : j' = j
      · subst hjj
        rw [List.getElem?_set_self hj] at hx''
        obtain rfl := Option.some.inj hx''
        rw [Array.getElem?_setIfInBounds_self_of_lt (by omega)]
      · rw [List.getElem?_set_ne (fun e => hjj e.symm)] at hx''
        rw [Array.getElem?_setIfInBounds_ne (fun e => hjj e.symm)]
        exact p5 j' x' hx''
    · rw [Below.heap_setCell _ _ _ _ n3, c1, set_same (by simpa using (c3 k b hb).1)]
  · rcases hx with q | ⟨_, q⟩ | ⟨b', hb', q⟩
    · exact .inl q
    · exact .inr (.inl ⟨hne, q⟩)
    · have hb'' : b' ∈ L.bs.set k { b with ls := b.ls.set j y } := hb'
      rcases List.mem_or_eq_of_mem_set hb'' with r | rfl
      · exact .inr (.inr ⟨b', r, q⟩)
      · exact .inr (.inr ⟨b, hm, q⟩)
end Go.Proofs.Ybulkdcko
