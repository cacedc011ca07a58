/-
  THE GROUP AND THE PLAIN TABLE BESIDE IT.
-/
import Derived.Test.YbulkdckoHold
import Derived.Deep.OwnRows
namespace Go.Proofs.Ybulkdcko
open Go.RowKit

theorem drop_any {w : World} {M : Nat} {L : Lay} (h : Pic w M L) (hM : M ≤ w.heap.size) (v : Inv L) (n : Int) :
    Calls Yba.prog 4 #[.pointer (some ⟨L.gb, 0, none⟩), .int .i64 n] w fun e w' => e = .returned (.tuple #[]) ∧ ∃ L', Step M w w' L L' ∧ L'.gb = L.gb ∧ Inv L' ∧ ∀ m, view L' m = if m = n then -1 else view L m := by
  by_cases hv : view L n = -1
  · refine (drop_none h v.sh n (line_vac v hv).1).mono ?_
    rintro e w' ⟨rfl, b⟩
    refine ⟨rfl, L, Step.grew h b hM, rfl, v, fun m => ?_⟩
    by_cases e : m = n
    · rw [if_pos e, e, hv]
    · rw [if_neg e]
  · obtain ⟨hb, hx⟩ := view_some hv
    have h2 := valAt_lt v.sh hx
    have hne : L.bs ≠ [] := fun e => by
      unfold valAt at hx
      rw [e] at hx
      simp at hx
    obtain ⟨q1, q2, q3⟩ := v.fst hne
    have hf : L.first ≤ n := by
      rcases Int.lt_or_le n L.first with q | q
      · exact absurd (q3 n q) hv
      · exact q
    obtain ⟨i, hi⟩ : ∃ i : Nat, i = (n - L.base).toNat := ⟨_, rfl⟩
    rw [← hi] at hx h2
    have hn : n = L.base + (i : Nat) := by omega
    unfold valAt at hx
    cases hk : L.bs[i / 4096]? with
    | none => rw [hk] at hx; simp at hx
    | some b =>
      rw [hk] at hx
      have hx' : b.ls[i % 4096]? = some (view L n) := hx
      have hik : i = i / 4096 * 4096 + i % 4096 := by omega
      have hcp : 1 ≤ L.count := by
        have h3 := total_pos hk
        have h4 := heldOf_pos hx' hv
        have h5 := v.cnt
        omega
      have hcl : L.count ≤ 1000000 := by
        have h3 := total_le v.sh.le
        have h4 := h.few
        have h5 := v.cnt
        have h6 := v.top
        have h7 := v.b0
        obtain ⟨c, hc, _⟩ := last_of_ne hne
        have h8 := endN_some hc
        omega
      refine (drop_some h v.sh hM n i (i / 4096) (i % 4096) b (view L n) hik (by omega) hn hf (by omega) hk hx' hv hcp hcl (fun c1 c2 => next_of v hik (by omega) hn hk hx' hv c1 c2)).mono ?_
      rintro e w' ⟨rfl, L', hd, st⟩
      obtain ⟨p1, p2⟩ := inv_drop v hik (by omega) hn hk hx' hv hd
      refine ⟨rfl, L', st, ?_, p1, p2⟩
      rcases hd with ⟨_, rfl⟩ | ⟨_, f, d, _, rfl, _⟩ <;> rfl

theorem Pic.keep {w W : World} {M : Nat} {L : Lay} (h : Pic w M L) (hk : ∀ x, M ≤ x → x < w.heap.size → W.heap[x]? = w.heap[x]?) : Pic W M L := by
  refine ⟨(hk _ h.lo h.lt).trans h.grp, fun hne => ?_, h.room, h.small, h.few, fun x hx => ?_, h.nd, h.lo, h.lok, h.lol⟩
  · obtain ⟨cur, h1, h2⟩ := h.arr hne
    exact ⟨cur, (hk _ (h.lok hne) (Array.getElem?_eq_some_iff.1 h1).1).trans h1, h2⟩
  · obtain ⟨h1, h2, cur, h3, h4⟩ := h.lin x hx
    exact ⟨h1, h2, cur, (hk _ (h.lol x hx) (Array.getElem?_eq_some_iff.1 h3).1).trans h3, h4⟩

/-- the table lies in block B of w, the group in block B + 1: both say the same -/
structure Both (w W : World) (L : Lay) : Prop where
  bel : Below w.heap.size w W
  size : w.heap.size + 1 < W.heap.size
  gb : L.gb = w.heap.size + 1
  pic : Pic W (w.heap.size + 1) L
  inv : Inv L
  row : W.rowIs w.heap.size 2 9000 (fun j => .int .i64 (view L (j : Nat)))
theorem Both.grew {w W W' : World} {L : Lay} (h : Both w W L) (b : Below W.heap.size W W') : Both w W' L := by
  have hs := h.size
  exact ⟨h.bel.trans (b.mono (by omega)), Nat.lt_of_lt_of_le h.size b.size, h.gb, h.pic.up b, h.inv, h.row.of_block (b.block _ (by omega))⟩
/-- a step on the group, and the table's line set -/
theorem Both.next {w W W1 : World} {L L' : Lay} (h : Both w W L) (s : Step (w.heap.size + 1) W W1 L L') (hg : L'.gb = L.gb) (v : Inv L') {n : Nat} {x : Int} (hv : ∀ m, view L' m = if m = (n : Int) then x else view L m) :
    Both w (W1.setCell ⟨w.heap.size, n, none⟩ (.int .i64 x)) L' := by
  have hs := h.size
  refine ⟨(h.bel.trans (s.bel.mono (Nat.le_succ _))).setCell (Nat.le_refl _) _, by rw [size_set]; exact Nat.lt_of_lt_of_le hs s.bel.size, hg.trans h.gb, s.pic.keep (fun x hx _ => Below.heap_setCell _ _ _ _ (by simp only; omega)), v, ?_⟩
  have r := (h.row.of_block (s.bel.block _ (Nat.lt_succ_self _))).set n (.int .i64 x)
  refine r.congr (fun j _ => ?_)
  rw [hv]
  by_cases e : j = n
  · rw [if_pos e, if_pos (by omega)]
  · rw [if_neg e, if_neg (by omega)]
theorem Both.cell {w W : World} {L : Lay} (h : Both w W L) {n : Nat} (hn : n < 9000) : W.cell? ⟨w.heap.size, n, none⟩ = some (.int .i64 (view L (n : Nat))) := h.row.cell hn

/-- what a new group is -/
def newLay (gb : Nat) : Lay := ⟨gb, 0, 0, 0, [], 0, 0, 0, 0, 0⟩
theorem both_start {w W : World} (b : Below w.heap.size w W) (hs : W.heap.size = w.heap.size + 1) (r : W.rowIs w.heap.size 2 9000 (fun _ => .int .i64 (-1))) :
    Both w (W.alloc (.cells #[.slice none 0 0, .int .i64 0, .int .i64 0, .int .i64 0, .int .i64 0, .int .i64 0] 27)) (newLay (w.heap.size + 1)) := by
  obtain ⟨z1, z2, z3⟩ := alloc1 W (.cells #[.slice none 0 0, .int .i64 0, .int .i64 0, .int .i64 0, .int .i64 0, .int .i64 0] 27)
  rw [hs] at z1 z2 z3
  have hv : ∀ m, view (newLay (w.heap.size + 1)) m = -1 := fun m => view_zero rfl m
  refine ⟨b.trans (z2.mono (by omega)), by omega, rfl, ⟨z3, fun hne => absurd rfl hne, Nat.le_refl _, Nat.zero_le _, Nat.zero_le _, fun b hb => by simp [newLay] at hb, by simp [newLay], Nat.le_refl _, fun hne => absurd rfl hne, fun b hb => by simp [newLay] at hb⟩, ?_, ?_⟩
  · refine ⟨⟨show (-1000000 : Int) ≤ 0 by decide, show (0 : Int) ≤ 1000000 by decide, fun b hb => by simp [newLay] at hb, fun i b hb => by simp [newLay] at hb, fun hne => absurd rfl hne⟩, fun b hb => by simp [newLay] at hb, rfl, fun hne => absurd rfl hne, fun m hm => absurd (hv m) hm, show (0 : Int) ≤ 9000 by decide, show (0 : Int) ≤ 0 by decide, show (0 : Int) < 9000 by decide, show (-10000 : Int) ≤ 0 by decide, show (0 : Int) ≤ 9000 by decide⟩
  · exact (r.of_block (z2.block _ (Nat.lt_succ_self _))).congr (fun j _ => by rw [hv])
end Go.Proofs.Ybulkdcko
