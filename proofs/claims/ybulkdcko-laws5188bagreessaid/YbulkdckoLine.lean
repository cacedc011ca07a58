/-
  WHAT line ANSWERS, by what is held; the next held number. No Go in sight.
-/
import Derived.Test.YbulkdckoView
namespace Go.Proofs.Ybulkdcko

theorem valAt_lt {L : Lay} (hs : Shaped L) {i : Nat} {x : Int} (h : valAt L i = some x) : L.base + (i : Int) < L.endN := by
  unfold valAt at h
  cases hk : L.bs[i / 4096]? with
  | none => rw [hk] at h; simp at h
  | some b =>
    rw [hk] at h
    have h' : b.ls[i % 4096]? = some x := h
    have h1 := (List.getElem?_eq_some_iff.1 h').1
    have h2 := (List.getElem?_eq_some_iff.1 hk).1
    have hbl := hs.le b (List.mem_of_getElem? hk)
    unfold Lay.endN
    cases hl : L.bs.getLast? with
    | none =>
      have := List.getLast?_eq_none_iff.1 hl
      rw [this] at h2
      simp at h2
    | some c =>
      simp only
      by_cases hlast : i / 4096 + 1 < L.bs.length
      · omega
      · have e : i / 4096 = L.bs.length - 1 := by omega
        rw [List.getLast?_eq_getElem?, ← e, hk] at hl
        obtain rfl := Option.some.inj hl
        omega
theorem view_some {L : Lay} {n : Int} (h : view L n ≠ -1) : L.base ≤ n ∧ valAt L (n - L.base).toNat = some (view L n) := by
  unfold view at h ⊢
  by_cases hb : L.base ≤ n
  · rw [if_pos hb] at h ⊢
    refine ⟨hb, ?_⟩
    cases hv : valAt L (n - L.base).toNat with
    | none => rw [hv] at h; exact absurd rfl h
    | some x => rfl
  · rw [if_neg hb] at h
    exact absurd rfl h
theorem line_held {L : Lay} (v : Inv L) {n : Int} (h : view L n ≠ -1) : lineP L n = (view L n, true) := by
  obtain ⟨hb, hv⟩ := view_some h
  have h2 := valAt_lt v.sh hv
  have hne : L.bs ≠ [] := fun e => by
    unfold valAt at hv
    rw [e] at hv
    simp at hv
  have h1 : ¬ n < L.first := fun q => h ((v.fst hne).2.2 n q)
  unfold lineP
  rw [if_neg (by omega)]
  unfold valAt at hv
  cases hk : L.bs[(n - L.base).toNat / 4096]? with
  | none => rw [hk] at hv; simp at hv
  | some b =>
    rw [hk] at hv
    have hv' : b.ls[(n - L.base).toNat % 4096]? = some (view L n) := hv
    simp [List.getD, hv', h]
theorem line_vac {L : Lay} {n : Int} (v : Inv L) (h : view L n = -1) : (lineP L n).2 = false ∧ ((lineP L n).1 = 0 ∨ (lineP L n).1 = -1) := by
  unfold lineP
  by_cases hc : n < L.first ∨ L.endN ≤ n
  · rw [if_pos hc]
    exact ⟨rfl, .inl rfl⟩
  · rw [if_neg hc]
    obtain ⟨i, b, hn, hb, hj, hk⟩ := kept_at (n := n) v.sh (by omega) (by omega)
    have e : (n - L.base).toNat = i := by omega
    rw [e, hb]
    have hx : b.ls[i % 4096]? = some (b.ls[i % 4096]) := List.getElem?_eq_getElem hj
    have hv : view L n = b.ls[i % 4096] := by
      unfold view valAt
      rw [if_pos (by omega), e, hb]
      simp [hx]
    have h2 : b.ls[i % 4096] = -1 := by rw [← hv]; exact h
    simp [List.getD, hx, h2]
theorem line_out {L : Lay} (v : Inv L) {n : Int} (h : n < 0 ∨ 9000 ≤ n) : lineP L n = (0, false) := by
  have := v.f0
  have := v.top
  exact if_pos (by omega)

theorem total_ex : ∀ {bs : List Blk}, 0 < total bs → ∃ (k : Nat) (b : Blk) (j : Nat) (x : Int), bs[k]? = some b ∧ b.ls[j]? = some x ∧ x ≠ -1
  | [], h => by simp [total] at h
  | a :: r, h => by
    by_cases h0 : heldOf a.ls = 0
    · have h1 : 0 < total r := by
        simp only [total, List.map_cons, List.sum_cons] at *
        omega
      obtain ⟨k, b, j, x, q1, q2, q3⟩ := total_ex h1
      exact ⟨k + 1, b, j, x, by simpa using q1, q2, q3⟩
    · have h1 : 0 < heldOf a.ls := by omega
      unfold heldOf at h1
      rw [List.countP_pos_iff] at h1
      obtain ⟨x, hx, hx1⟩ := h1
      obtain ⟨j, hj, rfl⟩ := List.getElem_of_mem hx
      exact ⟨0, a, j, _, rfl, List.getElem?_eq_getElem hj, by simpa using hx1⟩
theorem next_of {L : Lay} (v : Inv L) {n : Int} {i k j : Nat} {b : Blk} {x : Int} (hi : i = k * 4096 + j) (hj4 : j < 4096) (hn : n = L.base + (i : Nat)) (hb : L.bs[k]? = some b) (hx : b.ls[j]? = some x) (hx1 : x ≠ -1) (hc : L.count ≠ 1) (hf : n = L.first) :
    ∃ i' x', i + 1 ≤ i' ∧ valAt (L.put k b j (-1)) i' = some x' ∧ x' ≠ -1 := by
  have hj : j < b.ls.length := (List.getElem?_eq_some_iff.1 hx).1
  have hk : k < L.bs.length := (List.getElem?_eq_some_iff.1 hb).1
  have hne : L.bs ≠ [] := fun e => by rw [e] at hk; simp at hk
  have htot : total (L.put k b j (-1)).bs + 1 = total L.bs := total_set hb 1 (heldOf_vacate hx hx1)
  have hcnt := v.cnt
  obtain ⟨k', b', j', x', q1, q2, q3⟩ := total_ex (bs := (L.put k b j (-1)).bs) (by omega)
  have hs := shaped_put v.sh hb j (-1) 0
  have hj' : j' < 4096 := by
    have := (List.getElem?_eq_some_iff.1 q2).1
    have := hs.le b' (List.mem_of_getElem? q1)
    omega
  have hva : valAt (L.put k b j (-1)) (k' * 4096 + j') = some x' := by
    unfold valAt
    rw [show (k' * 4096 + j') / 4096 = k' by omega, show (k' * 4096 + j') % 4096 = j' by omega, q1]
    exact q2
  refine ⟨k' * 4096 + j', x', ?_, hva, q3⟩
  have hvv : view (L.put k b j (-1)) (L.base + ((k' * 4096 + j' : Nat) : Int)) = x' := by
    unfold view
    show (if L.base ≤ L.base + ((k' * 4096 + j' : Nat) : Int) then (valAt (L.put k b j (-1)) (L.base + ((k' * 4096 + j' : Nat) : Int) - L.base).toNat).getD (-1) else -1) = x'
    rw [if_pos (by omega), show (L.base + ((k' * 4096 + j' : Nat) : Int) - L.base).toNat = k' * 4096 + j' by omega, hva]
    rfl
  rw [view_put hb hj hj4] at hvv
  by_cases e : L.base + ((k' * 4096 + j' : Nat) : Int) = L.base + ((k * 4096 + j : Nat) : Int)
  · rw [if_pos e] at hvv
    exact absurd hvv.symm q3
  · rw [if_neg e] at hvv
    rcases Int.lt_or_le (L.base + ((k' * 4096 + j' : Nat) : Int)) L.first with q | q
    · exact absurd ((v.fst hne).2.2 _ q) (by rw [hvv]; exact q3)
    · omega
end Go.Proofs.Ybulkdcko
