/-
  WHAT hold DOES, STEP BY STEP. No Go in sight.
-/
import Derived.Test.YbulkdckoKeep
namespace Go.Proofs.Ybulkdcko

/-- a group on its way to hold n: what it shows is vw -/
structure Rdy (L : Lay) (n : Int) (vw : Int → Int) : Prop where
  sh : Shaped L
  last : ∀ b, L.bs.getLast? = some b → 0 < b.ls.length
  cnt : L.count = (total L.bs : Nat)
  vm : ∀ m, view L m = vw m
  emp : L.bs = [] → L.base = n ∧ L.first = n
  fb : L.first < L.base + 4096 ∨ n < L.base + 4096
  fst : (vw L.first ≠ -1 ∨ L.first = n) ∧ ∀ m, m < L.first → vw m = -1
  top : L.endN ≤ 9000
  f0 : 0 ≤ L.first
  f1 : L.first < 9000
  b0 : -10000 ≤ L.base
  b1 : L.base ≤ 9000

theorem rdy_some {L : Lay} (v : Inv L) (hne : L.bs ≠ []) (n : Int) : Rdy L n (view L) :=
  ⟨v.sh, v.last, v.cnt, fun _ => rfl, fun e => absurd e hne, .inl (v.fst hne).1, ⟨.inl (v.fst hne).2.1, (v.fst hne).2.2⟩, v.top, v.f0, v.f1, v.b0, v.b1⟩
theorem rdy_none {L : Lay} (v : Inv L) (he : L.bs = []) {n : Int} (h0 : 0 ≤ n) (h1 : n < 9000) : Rdy { L with base := n, first := n } n (view L) := by
  have hv : ∀ m, view L m = -1 := fun m => view_zero (by rw [he]; rfl) m
  have hv2 : ∀ m, view { L with base := n, first := n } m = -1 := fun m => view_zero (L := { L with base := n, first := n }) (by show total L.bs = 0; rw [he]; rfl) m
  refine ⟨⟨by simp only; omega, by simp only; omega, v.sh.le, v.sh.full, fun h => absurd he h⟩, v.last, v.cnt, fun m => by rw [hv, hv2], fun _ => ⟨rfl, rfl⟩, .inl (by simp only; omega), ⟨.inr rfl, fun m _ => hv m⟩, ?_, h0, h1, by simp only; omega, by simp only; omega⟩
  unfold Lay.endN
  simp only [he, List.getLast?_nil]
  omega

theorem endN_some {L : Lay} {b : Blk} (h : L.bs.getLast? = some b) : L.endN = L.base + ((L.bs.length : Int) - 1) * 4096 + (b.ls.length : Int) := by
  unfold Lay.endN
  rw [h]
theorem last_of_ne {L : Lay} (h : L.bs ≠ []) : ∃ b, L.bs.getLast? = some b ∧ L.bs[L.bs.length - 1]? = some b := by
  cases hl : L.bs.getLast? with
  | none => exact absurd (List.getLast?_eq_none_iff.1 hl) h
  | some b => exact ⟨b, rfl, by rw [← List.getLast?_eq_getElem?]; exact hl⟩

/-- blocks of vacant lines ahead -/
theorem rdy_front {L : Lay} {n : Int} {vw : Int → Int} (r : Rdy L n vw) (hn : n < L.base) (h0 : 0 ≤ n) {fs : List Blk} (hf : ∀ f ∈ fs, f.ls = List.replicate 4096 (-1)) (hl : (fs.length : Int) = (L.base - n + 4095) / 4096) (kb ko kc : Nat) :
    Rdy { L with kb := kb, ko := ko, kc := kc, bs := fs ++ L.bs, base := L.base - (fs.length : Int) * 4096 } n vw ∧ L.base - (fs.length : Int) * 4096 ≤ n := by
  have hne : L.bs ≠ [] := fun e => by have := (r.emp e).1; omega
  obtain ⟨b, hb, hb'⟩ := last_of_ne hne
  have hgl : (fs ++ L.bs).getLast? = some b := by rw [List.getLast?_append, hb]; rfl
  have hb1 := r.b1
  have hb0 := r.b0
  have hfl : ∀ f ∈ fs, f.ls.length = 4096 := fun f h => by rw [hf f h, List.length_replicate]
  refine ⟨⟨⟨?_, ?_, fun c hc => ?_, fun i c hc hi => ?_, fun _ => ?_⟩, fun c hc => ?_, ?_, fun m => ?_, fun e => absurd e (by simp [hne]), .inr ?_, r.fst, ?_, r.f0, r.f1, ?_, ?_⟩, ?_⟩
  · show -1000000 ≤ L.base - (fs.length : Int) * 4096
    omega
  · show L.base - (fs.length : Int) * 4096 ≤ 1000000
    omega
  · rcases List.mem_append.1 hc with q | q
    · rw [hfl c q]; omega
    · exact r.sh.le c q
  · have hc' : (fs ++ L.bs)[i]? = some c := hc
    have hi' : i + 1 < fs.length + L.bs.length := by simpa using hi
    by_cases q : i < fs.length
    · rw [List.getElem?_append_left q] at hc'
      exact hfl c (List.mem_of_getElem? hc')
    · rw [List.getElem?_append_right (by omega)] at hc'
      exact r.sh.full _ c hc' (by omega)
  · have := r.sh.lf hne
    show L.base - (fs.length : Int) * 4096 ≤ L.first
    omega
  · have hc' : (fs ++ L.bs).getLast? = some c := hc
    rw [hgl] at hc'
    obtain rfl := Option.some.inj hc'
    exact r.last b hb
  · show L.count = (total (fs ++ L.bs) : Nat)
    rw [r.cnt]
    unfold total
    rw [List.map_append, List.sum_append_nat]
    have hz : (fs.map (fun b => heldOf b.ls)).sum = 0 := by
      have : ∀ gs : List Blk, (∀ f ∈ gs, f.ls = List.replicate 4096 (-1)) → (gs.map (fun b => heldOf b.ls)).sum = 0 := fun gs => by
        induction gs with
        | nil => intro _; rfl
        | cons a t ih =>
          intro h
          rw [List.map_cons, List.sum_cons, ih (fun f hf => h f (List.mem_cons_of_mem _ hf)), h a List.mem_cons_self]
          have : heldOf (List.replicate 4096 (-1)) = 0 := held_of_vacant (fun j x hx => by
            rw [List.getElem?_replicate] at hx
            split at hx
            · exact (Option.some.inj hx).symm
            · cases hx)
          rw [this]
      exact this fs hf
    rw [hz, Nat.zero_add]
  · rw [← r.vm m]
    refine view_front (L := L) (L' := { L with kb := kb, ko := ko, kc := kc, bs := fs ++ L.bs, base := L.base - (fs.length : Int) * 4096 }) rfl rfl (fun f hff j x hx => ?_) m
    rw [hf f hff, List.getElem?_replicate] at hx
    split at hx
    · exact (Option.some.inj hx).symm
    · cases hx
  · show n < L.base - (fs.length : Int) * 4096 + 4096
    omega
  · have h1 := endN_some (L := { L with kb := kb, ko := ko, kc := kc, bs := fs ++ L.bs, base := L.base - (fs.length : Int) * 4096 }) hgl
    have h2 := endN_some hb
    have := r.top
    rw [h1]
    simp only [List.length_append]
    omega
  · show -10000 ≤ L.base - (fs.length : Int) * 4096
    omega
  · show L.base - (fs.length : Int) * 4096 ≤ 9000
    omega
  · omega

/-- what grow does -/
structure Grown (L L' : Lay) : Prop where
  gb : L'.gb = L.gb
  base : L'.base = L.base
  first : L'.first = L.first
  count : L'.count = L.count
  view : ∀ m, view L' m = view L m
  endN : L'.endN = L.endN + 1
  total : total L'.bs = total L.bs
  sh : Shaped L'
  last : ∀ b, L'.bs.getLast? = some b → 0 < b.ls.length
  ne : L'.bs ≠ []
theorem grown_push {L : Lay} (hs : Shaped L) {b : Blk} (hb : L.bs[L.bs.length - 1]? = some b) (h4 : b.ls.length < 4096) (g c : Nat) : Grown L (L.swap (L.bs.length - 1) ⟨g, c, b.ls ++ [-1]⟩) := by
  have hk : L.bs.length - 1 < L.bs.length := (List.getElem?_eq_some_iff.1 hb).1
  have hlast : L.bs.getLast? = some b := by rw [List.getLast?_eq_getElem?]; exact hb
  have hl2 : (L.swap (L.bs.length - 1) ⟨g, c, b.ls ++ [-1]⟩).bs.getLast? = some ⟨g, c, b.ls ++ [-1]⟩ := by
    rw [List.getLast?_eq_getElem?]
    show (L.bs.set (L.bs.length - 1) ⟨g, c, b.ls ++ [-1]⟩)[(L.bs.set (L.bs.length - 1) ⟨g, c, b.ls ++ [-1]⟩).length - 1]? = _
    rw [List.length_set, List.getElem?_set_self hk]
  refine ⟨rfl, rfl, rfl, rfl, fun m => view_push hb g c m, ?_, ?_, ⟨hs.b1, hs.b2, fun d hd => ?_, fun i d hd hi => ?_, fun _ => ?_⟩, fun d hd => ?_, fun e => ?_⟩
  · rw [endN_some hlast, endN_some hl2]
    simp only [Lay.swap, List.length_set, List.length_append, List.length_cons, List.length_nil]
    omega
  · have := total_set (b' := ⟨g, c, b.ls ++ [-1]⟩) hb 0 (by show heldOf (b.ls ++ [-1]) + 0 = heldOf b.ls; unfold heldOf; rw [List.countP_append]; simp)
    show total (L.bs.set (L.bs.length - 1) ⟨g, c, b.ls ++ [-1]⟩) = total L.bs
    omega
  · have hd' : d ∈ L.bs.set (L.bs.length - 1) ⟨g, c, b.ls ++ [-1]⟩ := hd
    rcases List.mem_or_eq_of_mem_set hd' with q | rfl
    · exact hs.le d q
    · simp; omega
  · have hd' : (L.bs.set (L.bs.length - 1) ⟨g, c, b.ls ++ [-1]⟩)[i]? = some d := hd
    have hi' : i + 1 < L.bs.length := by simpa [Lay.swap] using hi
    rw [List.getElem?_set_ne (by omega)] at hd'
    exact hs.full i d hd' hi'
  · exact hs.lf (fun e => by rw [e] at hk; simp at hk)
  · rw [hl2] at hd
    obtain rfl := Option.some.inj hd
    simp
  · rw [e] at hl2
    simp at hl2
theorem grown_new {L : Lay} (hs : Shaped L) (hf : L.bs = [] → L.base = L.first) (h4 : ∀ b, L.bs[L.bs.length - 1]? = some b → b.ls.length = 4096) (kb ko kc g c : Nat) : Grown L { L with kb := kb, ko := ko, kc := kc, bs := L.bs ++ [⟨g, c, [-1]⟩] } := by
  have hl2 : (L.bs ++ [⟨g, c, [-1]⟩] : List Blk).getLast? = some ⟨g, c, [-1]⟩ := by simp
  refine ⟨rfl, rfl, rfl, rfl, fun m => view_newblock (L := L) (L' := { L with kb := kb, ko := ko, kc := kc, bs := L.bs ++ [⟨g, c, [-1]⟩] }) rfl rfl m, ?_, ?_, ⟨hs.b1, hs.b2, fun d hd => ?_, fun i d hd hi => ?_, fun _ => ?_⟩, fun d hd => ?_, by simp⟩
  · rw [endN_some (L := { L with kb := kb, ko := ko, kc := kc, bs := L.bs ++ [⟨g, c, [-1]⟩] }) hl2]
    simp only [List.length_append, List.length_cons, List.length_nil]
    by_cases he : L.bs = []
    · have := hf he
      unfold Lay.endN
      rw [he]
      simp only [List.length_nil, List.getLast?_nil]
      omega
    · obtain ⟨b, hb, hb'⟩ := last_of_ne he
      have hp : 0 < L.bs.length := List.length_pos_iff.2 he
      rw [endN_some hb, h4 b hb']
      omega
  · show total (L.bs ++ [⟨g, c, [-1]⟩]) = total L.bs
    unfold total
    rw [List.map_append, List.sum_append_nat]
    simp [heldOf]
  · rcases List.mem_append.1 hd with q | q
    · exact hs.le d q
    · simp only [List.mem_cons, List.not_mem_nil, or_false] at q
      subst q
      simp
  · have hd' : (L.bs ++ [⟨g, c, [-1]⟩])[i]? = some d := hd
    have hi' : i + 1 < L.bs.length + 1 := by simpa using hi
    rw [List.getElem?_append_left (by omega)] at hd'
    by_cases q : i + 1 < L.bs.length
    · exact hs.full i d hd' q
    · exact h4 d (by rw [show L.bs.length - 1 = i by omega]; exact hd')
  · show L.base ≤ L.first
    by_cases he : L.bs = []
    · rw [hf he]; exact Int.le_refl _
    · exact hs.lf he
  · have hd' : (L.bs ++ [(⟨g, c, [-1]⟩ : Blk)]).getLast? = some d := hd
    rw [hl2] at hd'
    obtain rfl := Option.some.inj hd'
    simp
theorem rdy_grown {L L' : Lay} {n : Int} {vw : Int → Int} (r : Rdy L n vw) (g : Grown L L') (h : L.endN ≤ n) (hn : n < 9000) : Rdy L' n vw :=
  ⟨g.sh, g.last, by rw [g.count, g.total]; exact r.cnt, fun m => by rw [g.view]; exact r.vm m, fun e => absurd e g.ne, by rw [g.first, g.base]; exact r.fb, by rw [g.first]; exact r.fst, by rw [g.endN]; omega, by rw [g.first]; exact r.f0, by rw [g.first]; exact r.f1, by rw [g.base]; exact r.b0, by rw [g.base]; exact r.b1⟩
theorem rdy_few {L : Lay} {n : Int} {vw : Int → Int} (r : Rdy L n vw) : L.bs.length < 100 := by
  by_cases he : L.bs = []
  · rw [he]; simp
  · obtain ⟨b, hb, _⟩ := last_of_ne he
    have h1 := endN_some hb
    have h2 := r.top
    have h3 := r.b0
    omega

/-- the block and the line of n -/
theorem rdy_at {L : Lay} {n : Int} {vw : Int → Int} (r : Rdy L n vw) (h1 : L.base ≤ n) (h2 : n < L.endN) : ∃ (i : Nat) (b : Blk), n = L.base + (i : Nat) ∧ L.bs[i / 4096]? = some b ∧ i % 4096 < b.ls.length ∧ i / 4096 < L.bs.length := by
  have hne : L.bs ≠ [] := fun e => by
    have := r.emp e
    unfold Lay.endN at h2
    rw [e] at h2
    simp only [List.getLast?_nil] at h2
    omega
  have e : ({ L with first := L.base } : Lay).endN = L.endN := by
    obtain ⟨b, hb, _⟩ := last_of_ne hne
    rw [endN_some hb, endN_some (L := { L with first := L.base }) hb]
  exact kept_at (L := { L with first := L.base }) ⟨r.sh.b1, r.sh.b2, r.sh.le, r.sh.full, fun _ => Int.le_refl _⟩ h1 (by rw [e]; exact h2)

/-- what hold leaves -/
theorem inv_hold {L : Lay} {n at_ : Int} {vw : Int → Int} (r : Rdy L n vw) (hrng : ∀ m, vw m ≠ -1 → 0 ≤ m ∧ m < 9000) (h0 : 0 ≤ n) (h9 : n < 9000) (ha : at_ ≠ -1) {i : Nat} {b : Blk} (hn : n = L.base + (i : Nat)) (hb : L.bs[i / 4096]? = some b) (hj : i % 4096 < b.ls.length) (c hi la : Int)
    (hc : c = L.count + ((heldOf (b.ls.set (i % 4096) at_) : Int) - (heldOf b.ls : Int))) :
    Inv { L.put (i / 4096) b (i % 4096) at_ with count := c, first := min L.first n, high := hi, last := la } ∧ ∀ m, view { L.put (i / 4096) b (i % 4096) at_ with count := c, first := min L.first n, high := hi, last := la } m = if m = n then at_ else vw m := by
  have hk : i / 4096 < L.bs.length := (List.getElem?_eq_some_iff.1 hb).1
  have hne : L.bs ≠ [] := fun e => by rw [e] at hk; simp at hk
  have hvp : ∀ m, view { L.put (i / 4096) b (i % 4096) at_ with count := c, first := min L.first n, high := hi, last := la } m = if m = n then at_ else vw m := fun m => by
    show view (L.put (i / 4096) b (i % 4096) at_) m = _
    rw [view_put hb hj (by omega), ← r.vm m, show i / 4096 * 4096 + i % 4096 = i by omega, ← hn]
  have hs0 := shaped_put r.sh hb (i % 4096) at_ c
  have he0 := endN_put hb (i % 4096) at_ c
  have hne' : (L.put (i / 4096) b (i % 4096) at_).bs ≠ [] := fun e => by
    have : (L.put (i / 4096) b (i % 4096) at_).bs.length = L.bs.length := by simp [Lay.put]
    rw [e] at this
    simp at this
    omega
  have hlf := r.sh.lf hne
  have hmin : min L.first n ≤ L.first ∧ min L.first n ≤ n ∧ (min L.first n = L.first ∨ min L.first n = n) := by
    rcases Int.le_total L.first n with q | q
    · rw [Int.min_eq_left q]; exact ⟨Int.le_refl _, q, .inl rfl⟩
    · rw [Int.min_eq_right q]; exact ⟨q, Int.le_refl _, .inr rfl⟩
  obtain ⟨m1, m2, m3⟩ := hmin
  generalize hF : min L.first n = F at *
  obtain ⟨p1, p2⟩ := r.fst
  have f0 := r.f0
  have f1 := r.f1
  have b0 := r.b0
  have b1 := r.b1
  have fb := r.fb
  have top := r.top
  refine ⟨⟨⟨hs0.b1, hs0.b2, hs0.le, hs0.full, fun _ => ?_⟩, fun d hd => ?_, ?_, fun _ => ⟨?_, ?_, fun m hm => ?_⟩, fun m hm => ?_, ?_, ?_, ?_, b0, b1⟩, hvp⟩
  · show L.base ≤ F
    omega
  · have hd' : (L.bs.set (i / 4096) { b with ls := b.ls.set (i % 4096) at_ }).getLast? = some d := hd
    rw [List.getLast?_eq_getElem?, List.length_set] at hd'
    by_cases q : L.bs.length - 1 = i / 4096
    · rw [q, List.getElem?_set_self hk] at hd'
      obtain rfl := Option.some.inj hd'
      simp
      omega
    · rw [List.getElem?_set_ne (fun e => q e.symm)] at hd'
      exact r.last d (by rw [List.getLast?_eq_getElem?]; exact hd')
  · show c = (total (L.bs.set (i / 4096) { b with ls := b.ls.set (i % 4096) at_ }) : Nat)
    rw [hc, r.cnt]
    rcases Nat.le_total (heldOf (b.ls.set (i % 4096) at_)) (heldOf b.ls) with q | q
    · have := total_set (b' := { b with ls := b.ls.set (i % 4096) at_ }) hb (heldOf b.ls - heldOf (b.ls.set (i % 4096) at_)) (by simp only; omega)
      omega
    · have h' : (L.bs.set (i / 4096) { b with ls := b.ls.set (i % 4096) at_ })[i / 4096]? = some { b with ls := b.ls.set (i % 4096) at_ } := List.getElem?_set_self hk
      have := total_set (b' := b) h' (heldOf (b.ls.set (i % 4096) at_) - heldOf b.ls) (by simp only; omega)
      rw [List.set_set] at this
      have hsame : L.bs.set (i / 4096) b = L.bs := by
        apply List.ext_getElem?
        intro t
        by_cases e : i / 4096 = t
        · subst e
          rw [List.getElem?_set_self hk, hb]
        · rw [List.getElem?_set_ne e]
      rw [hsame] at this
      omega
  · show F < L.base + 4096
    omega
  · rw [hvp]
    by_cases e : F = n
    · have e' : (Lay.first { L.put (i / 4096) b (i % 4096) at_ with count := c, first := F, high := hi, last := la }) = n := e
      rw [if_pos e']
      exact ha
    · have e' : ¬ (Lay.first { L.put (i / 4096) b (i % 4096) at_ with count := c, first := F, high := hi, last := la }) = n := e
      rw [if_neg e']
      show vw F ≠ -1
      have q : F = L.first := by omega
      rw [q]
      rcases p1 with p | p
      · exact p
      · omega
  · have hm' : m < F := hm
    rw [hvp, if_neg (by omega)]
    exact p2 m (by omega)
  · rw [hvp] at hm
    by_cases e : m = n
    · rw [e]; exact ⟨h0, h9⟩
    · rw [if_neg e] at hm
      exact hrng m hm
  · have : Lay.endN { L.put (i / 4096) b (i % 4096) at_ with count := c, first := F, high := hi, last := la } = L.endN := by
      rw [← he0]
      obtain ⟨d, hd, _⟩ := last_of_ne hne'
      rw [endN_some (L := { L.put (i / 4096) b (i % 4096) at_ with count := c }) hd, endN_some (L := { L.put (i / 4096) b (i % 4096) at_ with count := c, first := F, high := hi, last := la }) hd]
    rw [this]
    exact top
  · show 0 ≤ F
    omega
  · show F < 9000
    omega
end Go.Proofs.Ybulkdcko
