/-
  WHAT grow AND THE FRONT BLOCKS LEAVE AS IT WAS. No Go in sight.
-/
import Derived.Test.YbulkdckoLine
import Derived.Test.YbulkdckoOver
namespace Go.Proofs.Ybulkdcko

theorem view_eq {L L' : Lay} (hb : L'.base = L.base) (h : ∀ i, (valAt L' i).getD (-1) = (valAt L i).getD (-1)) (n : Int) : view L' n = view L n := by
  unfold view
  rw [hb, h]
/-- a vacant line behind block k's last -/
theorem view_push {L : Lay} {k : Nat} {b : Blk} (hb : L.bs[k]? = some b) (g c : Nat) (n : Int) : view (L.swap k ⟨g, c, b.ls ++ [-1]⟩) n = view L n := by
  have hk : k < L.bs.length := (List.getElem?_eq_some_iff.1 hb).1
  refine view_eq (L := L) (L' := L.swap k ⟨g, c, b.ls ++ [-1]⟩) rfl (fun i => ?_) n
  unfold valAt Lay.swap
  simp only
  by_cases hik : i / 4096 = k
  · rw [hik, List.getElem?_set_self hk, hb]
    simp only [Option.bind_some]
    by_cases hl : i % 4096 < b.ls.length
    · rw [List.getElem?_append_left hl]
    · rw [List.getElem?_append_right (by omega), List.getElem?_eq_none (l := b.ls) (by omega)]
      by_cases e : i % 4096 - b.ls.length = 0
      · rw [e]; rfl
      · rw [List.getElem?_eq_none (by simp; omega)]
  · rw [List.getElem?_set_ne (fun e => hik e.symm)]
/-- a new block of one vacant line -/
theorem view_newblock {L L' : Lay} (hb : L'.base = L.base) {g c : Nat} (hbs : L'.bs = L.bs ++ [⟨g, c, [-1]⟩]) (n : Int) : view L' n = view L n := by
  refine view_eq hb (fun i => ?_) n
  unfold valAt
  rw [hbs]
  by_cases hl : i / 4096 < L.bs.length
  · rw [List.getElem?_append_left hl]
  · rw [List.getElem?_append_right (by omega), List.getElem?_eq_none (l := L.bs) (by omega)]
    by_cases e : i / 4096 - L.bs.length = 0
    · rw [e]
      simp only [List.getElem?_cons_zero, Option.bind_some]
      by_cases e2 : i % 4096 = 0
      · rw [e2]; rfl
      · rw [List.getElem?_eq_none (by simp; omega)]; rfl
    · rw [List.getElem?_eq_none (by simp; omega)]
/-- blocks of vacant lines ahead -/
theorem view_front {L L' : Lay} {fs : List Blk} (hb : L'.base = L.base - (fs.length : Int) * 4096) (hbs : L'.bs = fs ++ L.bs) (hf : ∀ f ∈ fs, ∀ (j : Nat) (x : Int), f.ls[j]? = some x → x = -1) (n : Int) : view L' n = view L n := by
  have hv : ∀ i, i < fs.length * 4096 → (valAt L' i).getD (-1) = -1 := fun i hi => by
    unfold valAt
    rw [hbs, List.getElem?_append_left (by omega)]
    cases hk : fs[i / 4096]? with
    | none => rfl
    | some f =>
      simp only [Option.bind_some]
      cases hj : f.ls[i % 4096]? with
      | none => rfl
      | some x => exact hf f (List.mem_of_getElem? hk) _ x hj
  have hv2 : ∀ i, valAt L' (i + fs.length * 4096) = valAt L i := fun i => by
    unfold valAt
    rw [hbs, List.getElem?_append_right (by omega), show (i + fs.length * 4096) / 4096 - fs.length = i / 4096 by omega, show (i + fs.length * 4096) % 4096 = i % 4096 by omega]
  unfold view
  by_cases h1 : L.base ≤ n
  · rw [if_pos h1, if_pos (by omega), ← hv2, show (n - L'.base).toNat = (n - L.base).toNat + fs.length * 4096 by omega]
  · rw [if_neg h1]
    by_cases h2 : L'.base ≤ n
    · rw [if_pos h2]
      exact hv _ (by omega)
    · rw [if_neg h2]
end Go.Proofs.Ybulkdcko
