/-
  THE PLAIN MODEL of the copy index: chains of run numbers. No Go in sight.
-/
namespace Go.Proofs.Ybulkdceq

/-- f, but v at i -/
def upd {α : Type} (f : Nat → α) (i : Nat) (v : α) : Nat → α := fun j => if j = i then v else f j
theorem upd_same {α : Type} (f : Nat → α) (i : Nat) (v : α) : upd f i v i = v := by simp [upd]
theorem upd_other {α : Type} (f : Nat → α) (i : Nat) (v : α) {j : Nat} (h : j ≠ i) : upd f i v j = f j := by simp [upd, h]

/-- following 'nx' from o one meets just the runs of the list, and then nil -/
def IsChain (nx : Nat → Option Nat) : Option Nat → List Nat → Prop
  | o, [] => o = none
  | o, a :: l => o = some a ∧ IsChain nx (nx a) l

theorem IsChain.congr {nx nx' : Nat → Option Nat} : ∀ {l : List Nat} {o : Option Nat}, IsChain nx o l → (∀ a ∈ l, nx' a = nx a) → IsChain nx' o l
  | [], _, h, _ => h
  | a :: l, o, h, hc => by
    refine ⟨h.1, ?_⟩
    rw [hc a (by simp)]
    exact h.2.congr (fun b hb => hc b (by simp [hb]))

/-- the runs below i that are live and have the key h, newest first -/
def chainOf (key : Nat → Nat) (live : Nat → Bool) (h : Nat) : Nat → List Nat
  | 0 => []
  | i + 1 => if live i = true ∧ key i = h then i :: chainOf key live h i else chainOf key live h i

theorem mem_chainOf {key : Nat → Nat} {live : Nat → Bool} {h a : Nat} : ∀ {i : Nat}, a ∈ chainOf key live h i ↔ a < i ∧ live a = true ∧ key a = h
  | 0 => by simp [chainOf]
  | i + 1 => by
    unfold chainOf
    split
    · rename_i hc
      rw [List.mem_cons, mem_chainOf]
      constructor
      · rintro (rfl | ⟨h1, h2⟩)
        · exact ⟨by omega, hc⟩
        · exact ⟨by omega, h2⟩
      · rintro ⟨h1, h2⟩
        by_cases e : a = i
        · exact .inl e
        · exact .inr ⟨by omega, h2⟩
    · rename_i hc
      rw [mem_chainOf]
      constructor
      · rintro ⟨h1, h2⟩
        exact ⟨by omega, h2⟩
      · rintro ⟨h1, h2⟩
        by_cases e : a = i
        · subst e; exact absurd h2 hc
        · exact ⟨by omega, h2⟩

theorem nodup_chainOf (key : Nat → Nat) (live : Nat → Bool) (h : Nat) : ∀ i : Nat, (chainOf key live h i).Nodup
  | 0 => by simp [chainOf]
  | i + 1 => by
    unfold chainOf
    split
    · rw [List.nodup_cons]
      refine ⟨?_, nodup_chainOf key live h i⟩
      rw [mem_chainOf]
      omega
    · exact nodup_chainOf key live h i

theorem chainOf_dead (key : Nat → Nat) (live : Nat → Bool) (h c : Nat) : ∀ i : Nat, chainOf key (upd live c false) h i = (chainOf key live h i).filter (fun a => a ≠ c)
  | 0 => by simp [chainOf]
  | i + 1 => by
    unfold chainOf
    by_cases e : i = c
    · subst e
      rw [upd_same, chainOf_dead key live h i i]
      have hn : ∀ a ∈ chainOf key live h i, a ≠ i := fun a ha => by
        have := (mem_chainOf.1 ha).1; omega
      split
      · rename_i hc; simp at hc
      · split
        · rw [List.filter_cons]; simp
        · rfl
    · rw [upd_other _ _ _ e, chainOf_dead key live h c i]
      split
      · rw [List.filter_cons]; simp [e]
      · rfl

/-- the chain without its head -/
theorem filter_head {c : Nat} {l : List Nat} (h : (c :: l).Nodup) : (c :: l).filter (fun a => a ≠ c) = l := by
  rw [List.nodup_cons] at h
  rw [List.filter_cons]
  simp only [ne_eq, not_true_eq_false, decide_false, Bool.false_eq_true, if_false]
  exact List.filter_eq_self.2 (fun a ha => by
    have : a ≠ c := fun e => h.1 (e ▸ ha)
    simpa using this)

/-- a run that is the head is taken out -/
theorem chain_head {nx : Nat → Option Nat} {o : Option Nat} {c : Nat} {l : List Nat} (h : IsChain nx o (c :: l)) (hn : (c :: l).Nodup) :
    o = some c ∧ IsChain (upd nx c none) (nx c) ((c :: l).filter (fun a => a ≠ c)) := by
  rw [filter_head hn]
  rw [List.nodup_cons] at hn
  exact ⟨h.1, h.2.congr (fun a ha => upd_other _ _ _ (fun e => hn.1 (e ▸ ha)))⟩

/-- a run that stands behind p is taken out -/
theorem chain_mid {nx : Nat → Option Nat} {p c : Nat} {r : List Nat} : ∀ {pre : List Nat} {o : Option Nat}, IsChain nx o (pre ++ p :: c :: r) → (pre ++ p :: c :: r).Nodup →
    IsChain (upd (upd nx p (nx c)) c none) o ((pre ++ p :: c :: r).filter (fun a => a ≠ c))
  | [], o, h, hn => by
    simp only [List.nil_append] at *
    obtain ⟨rfl, h1, h2⟩ := h
    have hpc : p ≠ c := fun e => by rw [e] at hn; simp at hn
    have hpr : p ∉ r := fun e => by simp [e] at hn
    have hcr : c ∉ r := fun e => by simp [e] at hn
    have e1 : (p :: c :: r).filter (fun a => a ≠ c) = p :: r := by
      rw [List.filter_cons]
      simp only [ne_eq, hpc, not_false_eq_true, decide_true, if_true]
      rw [show (List.filter (fun a => decide ¬a = c) (c :: r)) = r from filter_head (by simpa using hcr |> fun h => ⟨h, by simp at hn; exact hn.2.2⟩)]
    rw [e1]
    refine ⟨rfl, ?_⟩
    rw [upd_other _ _ _ hpc, upd_same]
    exact h2.congr (fun a ha => by
      have e1 : a ≠ c := fun e => hcr (e ▸ ha)
      have e2 : a ≠ p := fun e => hpr (e ▸ ha)
      rw [upd_other _ _ _ e1, upd_other _ _ _ e2])
  | q :: pre, o, h, hn => by
    simp only [List.cons_append] at *
    obtain ⟨rfl, h1⟩ := h
    rw [List.nodup_cons] at hn
    have hqc : q ≠ c := fun e => hn.1 (by simp [e])
    have hqp : q ≠ p := fun e => hn.1 (by simp [e])
    rw [List.filter_cons]
    simp only [ne_eq, hqc, not_false_eq_true, decide_true, if_true]
    refine ⟨rfl, ?_⟩
    rw [upd_other _ _ _ hqc, upd_other _ _ _ hqp]
    exact chain_mid h1 hn.2

/-- how many of the four chains are not empty -/
def cnt (hd : Nat → Option Nat) : Nat := (if (hd 0).isSome then 1 else 0) + (if (hd 1).isSome then 1 else 0) + (if (hd 2).isSome then 1 else 0) + (if (hd 3).isSome then 1 else 0)

theorem cnt_some (hd : Nat → Option Nat) (h : Nat) (hh : h < 4) (v : Nat) : cnt (upd hd h (some v)) = if (hd h).isSome then cnt hd else cnt hd + 1 := by
  have : h = 0 ∨ h = 1 ∨ h = 2 ∨ h = 3 := by omega
  rcases this with rfl | rfl | rfl | rfl
  · cases hx : hd 0 <;> simp [cnt, upd, hx] <;> omega
  · cases hx : hd 1 <;> simp [cnt, upd, hx] <;> omega
  · cases hx : hd 2 <;> simp [cnt, upd, hx] <;> omega
  · cases hx : hd 3 <;> simp [cnt, upd, hx] <;> omega
theorem cnt_none (hd : Nat → Option Nat) (h : Nat) (hh : h < 4) : cnt (upd hd h none) + (if (hd h).isSome then 1 else 0) = cnt hd := by
  have : h = 0 ∨ h = 1 ∨ h = 2 ∨ h = 3 := by omega
  rcases this with rfl | rfl | rfl | rfl <;> simp [cnt, upd] <;> omega

end Go.Proofs.Ybulkdceq
