/-
  WHAT A GROUP HOLDS, as a function of the number; what drop does to it. No Go in sight.
-/
import Derived.Test.YbulkdckoDrop
namespace Go.Proofs.Ybulkdcko

/-- what is kept under n, or vacant -/
def view (L : Lay) (n : Int) : Int := if L.base ≤ n then (valAt L (n - L.base).toNat).getD (-1) else -1
/-- the articles held -/
def total (bs : List Blk) : Nat := (bs.map (fun b => heldOf b.ls)).sum
structure Inv (L : Lay) : Prop where
  sh : Shaped L
  last : ∀ b, L.bs.getLast? = some b → 0 < b.ls.length
  cnt : L.count = (total L.bs : Nat)
  fst : L.bs ≠ [] → L.first < L.base + 4096 ∧ view L L.first ≠ -1 ∧ ∀ n, n < L.first → view L n = -1
  rng : ∀ n, view L n ≠ -1 → 0 ≤ n ∧ n < 9000
  top : L.endN ≤ 9000
  f0 : 0 ≤ L.first
  f1 : L.first < 9000
  b0 : -10000 ≤ L.base
  b1 : L.base ≤ 9000

theorem valAt_put {L : Lay} {k : Nat} {b : Blk} (hb : L.bs[k]? = some b) {j : Nat} (hj : j < b.ls.length) (hj4 : j < 4096) (x : Int) (i : Nat) : valAt (L.put k b j x) i = if i = k * 4096 + j then some x else valAt L i := by
  have hk : k < L.bs.length := (List.getElem?_eq_some_iff.1 hb).1
  unfold valAt Lay.put
  simp only
  by_cases hik : i / 4096 = k
  · rw [hik, List.getElem?_set_self hk, hb]
    simp only [Option.bind_some]
    by_cases hij : i % 4096 = j
    · rw [if_pos (by omega), hij, List.getElem?_set_self hj]
    · rw [if_neg (by omega), List.getElem?_set_ne (fun e => hij e.symm)]
  · rw [List.getElem?_set_ne (fun e => hik e.symm), if_neg (by omega)]
theorem view_put {L : Lay} {k : Nat} {b : Blk} (hb : L.bs[k]? = some b) {j : Nat} (hj : j < b.ls.length) (hj4 : j < 4096) (x : Int) (n : Int) : view (L.put k b j x) n = if n = L.base + ((k * 4096 + j : Nat) : Int) then x else view L n := by
  unfold view
  show (if L.base ≤ n then (valAt (L.put k b j x) (n - L.base).toNat).getD (-1) else -1) = _
  by_cases h : L.base ≤ n
  · rw [if_pos h, if_pos h, valAt_put hb hj hj4]
    by_cases e : n = L.base + ((k * 4096 + j : Nat) : Int)
    · rw [if_pos (by omega), if_pos e]
      rfl
    · rw [if_neg (by omega), if_neg e]
  · rw [if_neg h, if_neg h, if_neg (by omega)]
theorem valAt_chop (L : Lay) (d i : Nat) : valAt (L.chop d) i = valAt L (i + d * 4096) := by
  unfold valAt Lay.chop
  simp only [List.getElem?_drop]
  rw [show (i + d * 4096) / 4096 = d + i / 4096 by omega, show (i + d * 4096) % 4096 = i % 4096 by omega]
theorem view_chop (L : Lay) (d : Nat) (n : Int) : view (L.chop d) n = if L.base + (d : Int) * 4096 ≤ n then view L n else -1 := by
  unfold view
  show (if L.base + (d : Int) * 4096 ≤ n then (valAt (L.chop d) (n - (L.base + (d : Int) * 4096)).toNat).getD (-1) else -1) = _
  by_cases h : L.base + (d : Int) * 4096 ≤ n
  · rw [if_pos h, if_pos h, if_pos (by omega), valAt_chop, show (n - (L.base + (d : Int) * 4096)).toNat + d * 4096 = (n - L.base).toNat by omega]
  · rw [if_neg h, if_neg h]
theorem total_set {bs : List Blk} {k : Nat} {b b' : Blk} (hb : bs[k]? = some b) (c : Nat) (h : heldOf b'.ls + c = heldOf b.ls) : total (bs.set k b') + c = total bs := by
  induction bs generalizing k with
  | nil => simp at hb
  | cons a r ih =>
    cases k with
    | zero =>
      simp at hb
      subst hb
      simp only [total, List.set_cons_zero, List.map_cons, List.sum_cons]
      omega
    | succ k =>
      have := ih (k := k) (by simpa using hb)
      simp only [total, List.set_cons_succ, List.map_cons, List.sum_cons] at *
      omega
theorem total_pos : ∀ {bs : List Blk} {k : Nat} {b : Blk}, bs[k]? = some b → heldOf b.ls ≤ total bs
  | [], _, _, h => by simp at h
  | a :: r, 0, b, h => by
    simp at h
    subst h
    simp only [total, List.map_cons, List.sum_cons]
    omega
  | a :: r, k + 1, b, h => by
    have := total_pos (bs := r) (k := k) (b := b) (by simpa using h)
    simp only [total, List.map_cons, List.sum_cons] at *
    omega
theorem total_drop : ∀ (d : Nat) (bs : List Blk), (∀ (k : Nat) (b : Blk), k < d → bs[k]? = some b → heldOf b.ls = 0) → total (bs.drop d) = total bs
  | 0, _, _ => rfl
  | d + 1, [], _ => rfl
  | d + 1, a :: r, h => by
    have h0 := h 0 a (by omega) rfl
    have := total_drop d r (fun k b hk hb => h (k + 1) b (by omega) (by simpa using hb))
    simp only [total, List.drop_succ_cons, List.map_cons, List.sum_cons] at *
    omega
theorem vacant_of_held {ls : List Int} (h : heldOf ls = 0) {j : Nat} {x : Int} (hx : ls[j]? = some x) : x = -1 := by
  unfold heldOf at h
  rw [List.countP_eq_zero] at h
  simpa using h x (List.mem_of_getElem? hx)
theorem held_of_vacant {ls : List Int} (h : ∀ (j : Nat) (x : Int), ls[j]? = some x → x = -1) : heldOf ls = 0 := by
  unfold heldOf
  rw [List.countP_eq_zero]
  intro x hx
  obtain ⟨j, hj, rfl⟩ := List.getElem_of_mem hx
  simpa using h j _ (List.getElem?_eq_getElem hj)
theorem view_zero {L : Lay} (h : total L.bs = 0) (n : Int) : view L n = -1 := by
  unfold view
  by_cases hb : L.base ≤ n
  · rw [if_pos hb]
    cases hv : valAt L (n - L.base).toNat with
    | none => rfl
    | some x =>
      unfold valAt at hv
      cases hk : L.bs[(n - L.base).toNat / 4096]? with
      | none => rw [hk] at hv; simp at hv
      | some b =>
        rw [hk] at hv
        have h1 := total_pos hk
        exact vacant_of_held (by omega) (show b.ls[(n - L.base).toNat % 4096]? = some x from hv)
  · rw [if_neg hb]
theorem endN_chop (L : Lay) (d : Nat) (hd : d < L.bs.length) : (L.chop d).endN = L.endN := by
  unfold Lay.endN
  show (match (L.bs.drop d).getLast? with | none => L.first | some b => L.base + (d : Int) * 4096 + (((L.bs.drop d).length : Int) - 1) * 4096 + (b.ls.length : Int)) = _
  rw [List.getLast?_drop, if_neg (by omega), List.length_drop]
  cases hl : L.bs.getLast? with
  | none => rfl
  | some b =>
    simp only
    omega
theorem shaped_chop {L : Lay} (hs : Shaped L) (d : Nat) (hb : L.base + (d : Int) * 4096 ≤ 1000000) (hf : L.base + (d : Int) * 4096 ≤ L.first) : Shaped (L.chop d) := by
  refine ⟨?_, hb, fun b hbm => hs.le b (List.mem_of_mem_drop hbm), fun i b hi hl => ?_, fun _ => hf⟩
  · have := hs.b1
    show -1000000 ≤ L.base + (d : Int) * 4096
    omega
  · have h1 : (L.bs.drop d)[i]? = some b := hi
    have h2 : i + 1 < (L.bs.drop d).length := hl
    rw [List.getElem?_drop] at h1
    rw [List.length_drop] at h2
    exact hs.full (d + i) b h1 (by omega)

theorem inv_drop {L L' : Lay} (v : Inv L) {n : Int} {i k j : Nat} {b : Blk} {x : Int} (hi : i = k * 4096 + j) (hj4 : j < 4096) (hn : n = L.base + (i : Nat)) (hb : L.bs[k]? = some b) (hx : b.ls[j]? = some x) (hx1 : x ≠ -1) (h : Dropped L k b j i L') :
    Inv L' ∧ ∀ m, view L' m = if m = n then -1 else view L m := by
  have hj : j < b.ls.length := (List.getElem?_eq_some_iff.1 hx).1
  have hk : k < L.bs.length := (List.getElem?_eq_some_iff.1 hb).1
  have hne : L.bs ≠ [] := fun e => by rw [e] at hk; simp at hk
  have hvp : ∀ m, view (L.put k b j (-1)) m = if m = n then -1 else view L m := fun m => by rw [view_put hb hj hj4, hn, hi]
  have htot : total (L.put k b j (-1)).bs + 1 = total L.bs := total_set hb 1 (heldOf_vacate hx hx1)
  have hcnt := v.cnt
  obtain ⟨hf1, hf2, hf3⟩ := v.fst hne
  rcases h with ⟨hc, rfl⟩ | ⟨hc, f, d, hf, rfl, hd⟩
  · have hz : total (L.put k b j (-1)).bs = 0 := by omega
    have hview : ∀ m, view { L.put k b j (-1) with count := 0, bs := [] } m = -1 := fun m => view_zero rfl m
    refine ⟨⟨⟨v.sh.b1, v.sh.b2, fun b hb => by simp at hb, fun i b hb => by simp at hb, fun hne => absurd rfl hne⟩, fun b hb => by simp at hb, rfl, fun hne => absurd rfl hne, fun m hm => absurd (hview m) hm, ?_, v.f0, v.f1, v.b0, v.b1⟩, fun m => ?_⟩
    · show L.first ≤ 9000
      have := v.f1
      omega
    · rw [hview m, ← hvp m, view_zero hz m]
  · obtain ⟨P, hP⟩ : ∃ P, P = L.put k b j (-1) := ⟨_, rfl⟩
    have hPb : P.base = L.base := by rw [hP]; rfl
    have hPl : P.bs.length = L.bs.length := by rw [hP]; simp [Lay.put]
    have hxn : view L n ≠ -1 := by
      unfold view
      have e : valAt L (n - L.base).toNat = some x := by
        unfold valAt
        rw [show (n - L.base).toNat / 4096 = k by omega, show (n - L.base).toNat % 4096 = j by omega, hb]
        exact hx
      rw [if_pos (by omega), e]
      exact hx1
    have hfn : L.first ≤ n := by
      rcases Int.lt_or_le n L.first with q | q
      · exact absurd (hf3 n q) hxn
      · exact q
    rw [← hP] at hvp htot hf
    -- what the new first is
    have hff : L.base ≤ f ∧ view P f ≠ -1 ∧ ∀ m, m < f → view P m = -1 := by
      by_cases he : L.base + (i : Int) = L.first
      · rw [if_pos he] at hf
        obtain ⟨i', x', a1, rfl, a2, a3, a4⟩ := hf
        refine ⟨by omega, ?_, fun m hm => ?_⟩
        · unfold view
          rw [hPb, if_pos (by omega), show (L.base + (i' : Int) - L.base).toNat = i' by omega, a2]
          exact a3
        · rcases Int.lt_or_le m L.first with q | q
          · rw [hvp m, if_neg (by omega)]
            exact hf3 m q
          · by_cases hmn : m = n
            · rw [hvp m, if_pos hmn]
            · unfold view
              rw [hPb, if_pos (by omega)]
              cases hv : valAt P (m - L.base).toNat with
              | none => rfl
              | some y => exact a4 (m - L.base).toNat y (by omega) (by omega) hv
      · rw [if_neg he] at hf
        subst hf
        have hlf := v.sh.lf hne
        exact ⟨hlf, by rw [hvp, if_neg (by omega)]; exact hf2, fun m hm => by rw [hvp, if_neg (by omega)]; exact hf3 m hm⟩
    obtain ⟨g1, g2, g3⟩ := hff
    have hfr : 0 ≤ f ∧ f < 9000 := by
      have hfnn : f ≠ n := fun e => g2 (by rw [hvp, if_pos e])
      have : view L f ≠ -1 := by
        have := g2
        rw [hvp, if_neg hfnn] at this
        exact this
      exact v.rng f this
    have hfe : f < L.base + (L.bs.length : Int) * 4096 := by
      rcases Int.lt_or_le f (L.base + (L.bs.length : Int) * 4096) with q | q
      · exact q
      · exfalso
        apply g2
        unfold view valAt
        rw [hPb, if_pos (by omega), List.getElem?_eq_none (by omega)]
        rfl
    have hdl : d < L.bs.length := by omega
    obtain ⟨Q, hQ⟩ : ∃ Q : Lay, Q = { P with count := L.count - 1, first := f } := ⟨_, rfl⟩
    have hQe : Lay.chop { L.put k b j (-1) with count := L.count - 1, first := f } d = Q.chop d := by rw [hQ, hP]
    rw [hQe]
    have hQv : ∀ m, view Q m = view P m := fun m => by rw [hQ]; rfl
    have hQb : Q.base = L.base := by rw [hQ]; exact hPb
    have hQf : Q.first = f := by rw [hQ]
    have hQc : Q.count = L.count - 1 := by rw [hQ]
    have hQs : Q.bs = P.bs := by rw [hQ]
    have hvc : ∀ m, view (Q.chop d) m = if m = n then -1 else view L m := fun m => by
      rw [view_chop, hQb, hQv]
      by_cases hm : L.base + (d : Int) * 4096 ≤ m
      · rw [if_pos hm, hvp]
      · rw [if_neg hm, ← hvp m]
        exact (g3 m (by omega)).symm
    have hshQ : Shaped Q := by
      have s1 := shaped_put v.sh hb j (-1) (L.count - 1)
      refine ⟨by rw [hQb]; exact v.sh.b1, by rw [hQb]; exact v.sh.b2, fun b' hb' => s1.le b' (by rw [hQs, hP] at hb'; exact hb'), fun i' b' hb' hl => s1.full i' b' (by rw [hQs, hP] at hb'; exact hb') (by rw [hQs, hP] at hl; exact hl), fun _ => by rw [hQb, hQf]; exact g1⟩
    have hdq : d < Q.bs.length := by rw [hQs, hPl]; exact hdl
    have hendQ : Q.endN = L.endN := by
      have e := endN_put hb j (-1) (L.count - 1)
      rw [← e]
      unfold Lay.endN
      rw [hQs, hP, hQb, hQf]
      have : (L.put k b j (-1)).bs ≠ [] := fun e => by rw [hP, e] at hPl; simp at hPl; omega
      cases hl : (L.put k b j (-1)).bs.getLast? with
      | none => exact absurd (List.getLast?_eq_none_iff.1 hl) this
      | some b' => rfl
    refine ⟨⟨shaped_chop hshQ d (by rw [hQb]; omega) (by rw [hQb, hQf]; omega), fun b' hb' => ?_, ?_, fun _ => ⟨?_, ?_, fun m hm => ?_⟩, fun m hm => ?_, ?_, ?_, ?_, ?_, ?_⟩, hvc⟩
    · have h1 : (Q.bs.drop d).getLast? = some b' := hb'
      rw [List.getLast?_drop, if_neg (by omega), hQs, hP] at h1
      have h2 : (L.bs.set k { b with ls := b.ls.set j (-1) }).getLast? = some b' := h1
      rw [List.getLast?_eq_getElem?, List.length_set] at h2
      by_cases hkl : L.bs.length - 1 = k
      · rw [hkl, List.getElem?_set_self hk] at h2
        obtain rfl := Option.some.inj h2
        simp
        omega
      · rw [List.getElem?_set_ne (fun e => hkl e.symm)] at h2
        exact v.last b' (by rw [List.getLast?_eq_getElem?]; exact h2)
    · show Q.count = (total (Q.bs.drop d) : Nat)
      rw [total_drop d Q.bs (fun k' b' hk' hb' => held_of_vacant (fun j' x' hx' => ?_)), hQc, hQs]
      · omega
      · have hj' : j' < 4096 := by
          have := (List.getElem?_eq_some_iff.1 hx').1
          have := hshQ.le b' (List.mem_of_getElem? hb')
          omega
        have q := g3 (L.base + ((k' * 4096 + j' : Nat) : Int)) (by omega)
        unfold view valAt at q
        rw [hPb, if_pos (by omega), show (L.base + ((k' * 4096 + j' : Nat) : Int) - L.base).toNat / 4096 = k' by omega, show (L.base + ((k' * 4096 + j' : Nat) : Int) - L.base).toNat % 4096 = j' by omega, ← hQs, hb'] at q
        simp only [Option.bind_some, hx', Option.getD_some] at q
        exact q
    · show Q.first < Q.base + (d : Int) * 4096 + 4096
      rw [hQb, hQf]
      omega
    · show view (Q.chop d) Q.first ≠ -1
      rw [hvc, hQf, ← hvp]
      exact g2
    · have hm' : m < f := by rw [← hQf]; exact hm
      rw [hvc, ← hvp]
      exact g3 m hm'
    · rw [hvc] at hm
      by_cases e : m = n
      · rw [if_pos e] at hm
        exact absurd rfl hm
      · rw [if_neg e] at hm
        exact v.rng m hm
    · rw [endN_chop Q d hdq, hendQ]
      exact v.top
    · show 0 ≤ Q.first
      rw [hQf]; exact hfr.1
    · show Q.first < 9000
      rw [hQf]; exact hfr.2
    · show -10000 ≤ Q.base + (d : Int) * 4096
      rw [hQb]
      have := v.b0
      omega
    · show Q.base + (d : Int) * 4096 ≤ 9000
      rw [hQb]
      omega
end Go.Proofs.Ybulkdcko
