/-
  THE PICTURE KEPT: a field of the group set, a line set; the walk of raise.
-/
import Derived.Test.YbulkdckoAbove
namespace Go.Proofs.Ybulkdcko
open Go.RowKit

theorem heap_set {w : World} {b i : Nat} {cs : Array Value} {t : TypeId} {fr : Nat × Nat} (h : w.heap[b]? = some (.cells cs t fr)) (v : Value) : (w.setCell ⟨b, i, none⟩ v).heap[b]? = some (.cells (cs.setIfInBounds i v) t fr) := by
  simp only [World.setCell, Array.getElem?_modify, h, if_true, Option.map_some]
  rfl
theorem size_set {w : World} {a : Addr} {v : Value} : (w.setCell a v).heap.size = w.heap.size := by simp [World.setCell]
theorem Pic.ne_k {w : World} {M : Nat} {L : Lay} (h : Pic w M L) (hne : L.bs ≠ []) : L.gb ≠ L.kb := fun e => by
  obtain ⟨cur, h1, _⟩ := h.arr hne
  rw [← e, h.grp] at h1
  injection h1 with h1
  injection h1 with _ h2
  exact absurd h2 (by decide)
theorem Pic.ne_l {w : World} {M : Nat} {L : Lay} (h : Pic w M L) {b : Blk} (hb : b ∈ L.bs) : L.gb ≠ b.lb := fun e => by
  obtain ⟨_, _, cur, h1, _⟩ := h.lin b hb
  rw [← e, h.grp] at h1
  injection h1 with h1
  injection h1 with _ h2
  exact absurd h2 (by decide)
theorem Pic.ne_kl {w : World} {M : Nat} {L : Lay} (h : Pic w M L) {b : Blk} (hb : b ∈ L.bs) : L.kb ≠ b.lb := fun e => by
  obtain ⟨_, _, cur, h1, _⟩ := h.lin b hb
  obtain ⟨cur', h2, _⟩ := h.arr (fun e => by rw [e] at hb; simp at hb)
  rw [← e, h2] at h1
  injection h1 with h1
  injection h1 with _ h3
  exact absurd h3 (by decide)
/-- the same blocks, other numbers in the group -/
structure Same (L L' : Lay) : Prop where
  gb : L'.gb = L.gb
  kb : L'.kb = L.kb
  ko : L'.ko = L.ko
  kc : L'.kc = L.kc
  bs : L'.bs = L.bs
theorem Pic.setG {w W : World} {M : Nat} {L L' : Lay} (h : Pic w M L) (s : Same L L') (hb : ∀ b, b ≠ L.gb → W.heap[b]? = w.heap[b]?)
    (hg : W.heap[L.gb]? = some (.cells #[L'.hdr, .int .i64 L'.base, .int .i64 L'.first, .int .i64 L'.count, .int .i64 L'.high, .int .i64 L'.last] 27 (0, 0))) : Pic W M L' := by
  obtain ⟨s1, s2, s3, s4, s5⟩ := s
  refine ⟨by rw [s1]; exact hg, fun hne => ?_, by rw [s5, s4]; exact h.room, by rw [s4]; exact h.small, by rw [s5]; exact h.few, fun b hbm => ?_, by rw [s5]; exact h.nd, by rw [s1]; exact h.lo, fun hne => by rw [s2]; exact h.lok (s5 ▸ hne), fun b hbm => h.lol b (s5 ▸ hbm)⟩
  · rw [s5] at hne
    obtain ⟨cur, h1, h2, h3⟩ := h.arr hne
    rw [s2, s3, s4, s5]
    exact ⟨cur, (hb _ (h.ne_k hne).symm).trans h1, h2, h3⟩
  · rw [s5] at hbm
    obtain ⟨h1, h2, cur, h3, h4⟩ := h.lin b hbm
    exact ⟨h1, h2, cur, (hb _ (h.ne_l hbm).symm).trans h3, h4⟩
theorem Pic.setCell {w : World} {M : Nat} {L L' : Lay} (h : Pic w M L) (s : Same L L') {i : Nat} {v : Value}
    (hv : (#[L.hdr, .int .i64 L.base, .int .i64 L.first, .int .i64 L.count, .int .i64 L.high, .int .i64 L.last] : Array Value).setIfInBounds i v = #[L'.hdr, .int .i64 L'.base, .int .i64 L'.first, .int .i64 L'.count, .int .i64 L'.high, .int .i64 L'.last]) :
    Pic (w.setCell ⟨L.gb, i, none⟩ v) M L' :=
  h.setG s (fun b hb => Below.heap_setCell _ _ _ _ hb) (by rw [heap_set h.grp, hv])

/-- the block k with line j set to x -/
def Lay.put (L : Lay) (k : Nat) (b : Blk) (j : Nat) (x : Int) : Lay := { L with bs := L.bs.set k { b with ls := b.ls.set j x } }
theorem hdr_put (L : Lay) (k : Nat) (b : Blk) (j : Nat) (x : Int) : (L.put k b j x).hdr = L.hdr := by
  unfold Lay.hdr Lay.put
  simp only [List.length_set]
  by_cases h : L.bs = []
  · simp [h]
  · rw [if_neg h, if_neg (by simpa using h)]
theorem Pic.put {w : World} {M : Nat} {L : Lay} (h : Pic w M L) {k : Nat} {b : Blk} (hb : L.bs[k]? = some b) {j : Nat} (hj : j < b.ls.length) (x : Int) (v : Value) (hv : v = .int .i64 (heldOf (b.ls.set j x) : Nat)) :
    Pic ((w.setCell ⟨b.lb, j, none⟩ (.int .i64 x)).setCell ⟨L.kb, L.ko + k * 2 + 1, none⟩ v) M (L.put k b j x) := by
  have hk : k < L.bs.length := (List.getElem?_eq_some_iff.1 hb).1
  have hm := List.mem_of_getElem? hb
  have hne : L.bs ≠ [] := fun e => by rw [e] at hm; simp at hm
  have n1 := h.ne_k hne
  have n2 := h.ne_l hm
  have n3 := h.ne_kl hm
  have hnd := h.nd
  refine ⟨?_, fun _ => ?_, by simpa [Lay.put] using h.room, h.small, by simpa [Lay.put] using h.few, fun b' hb' => ?_, ?_, h.lo, fun _ => h.lok hne, fun b' hb' => ?_⟩
  · show ((w.setCell ⟨b.lb, j, none⟩ (.int .i64 x)).setCell ⟨L.kb, L.ko + k * 2 + 1, none⟩ v).heap[L.gb]? = _
    rw [Below.heap_setCell _ _ _ _ n1, Below.heap_setCell _ _ _ _ n2, h.grp, hdr_put]
    rfl
  · obtain ⟨cur, h1, h2, h3⟩ := h.arr hne
    have h1' : (w.setCell ⟨b.lb, j, none⟩ (.int .i64 x)).heap[L.kb]? = some (.cells cur 41 (0, 0)) := (Below.heap_setCell _ _ _ _ n3).trans h1
    refine ⟨cur.setIfInBounds (L.ko + k * 2 + 1) v, heap_set h1' v, by simpa [Lay.put] using h2, fun i b' hb' => ?_⟩
    show (cur.setIfInBounds (L.ko + k * 2 + 1) v)[L.ko + i * 2]? = _ ∧ (cur.setIfInBounds (L.ko + k * 2 + 1) v)[L.ko + i * 2 + 1]? = _
    have hb'' : (L.bs.set k { b with ls := b.ls.set j x })[i]? = some b' := hb'
    by_cases hik : i = k
    · subst hik
      rw [List.getElem?_set_self hk] at hb''
      obtain rfl := Option.some.inj hb''
      obtain ⟨q1, q2⟩ := h3 i b hb
      refine ⟨?_, ?_⟩
      · rw [Array.getElem?_setIfInBounds_ne (by omega), q1]
        simp
      · have : L.ko + i * 2 + 1 < cur.size := (Array.getElem?_eq_some_iff.1 q2).1
        rw [Array.getElem?_setIfInBounds_self_of_lt this, hv]
    · rw [List.getElem?_set_ne (fun e => hik e.symm)] at hb''
      obtain ⟨q1, q2⟩ := h3 i b' hb''
      exact ⟨by rw [Array.getElem?_setIfInBounds_ne (by omega)]; exact q1, by rw [Array.getElem?_setIfInBounds_ne (by omega)]; exact q2⟩
  · have hb'' : b' ∈ L.bs.set k { b with ls := b.ls.set j x } := hb'
    obtain ⟨i, hi⟩ := List.mem_iff_getElem?.1 hb''
    by_cases hik : i = k
    · subst hik
      rw [List.getElem?_set_self hk] at hi
      obtain rfl := Option.some.inj hi
      obtain ⟨p1, p2, cur, p3, p4, p5⟩ := h.lin b hm
      refine ⟨p1, by simpa using p2, cur.setIfInBounds j (.int .i64 x), ?_, by simpa using p4, fun j' x' hx' => ?_⟩
      · show ((w.setCell ⟨b.lb, j, none⟩ (.int .i64 x)).setCell ⟨L.kb, L.ko + i * 2 + 1, none⟩ v).heap[b.lb]? = _
        rw [Below.heap_setCell _ _ _ _ n3.symm]
        exact heap_set p3 _
      · have hx'' : (b.ls.set j x)[j']? = some x' := hx'
        by_cases hjj : j' = j
        · subst hjj
          rw [List.getElem?_set_self hj] at hx''
          obtain rfl := Option.some.inj hx''
          rw [Array.getElem?_setIfInBounds_self_of_lt (by omega)]
        · rw [List.getElem?_set_ne (fun e => hjj e.symm)] at hx''
          rw [Array.getElem?_setIfInBounds_ne (fun e => hjj e.symm)]
          exact p5 j' x' hx''
    · rw [List.getElem?_set_ne (fun e => hik e.symm)] at hi
      have hm' := List.mem_of_getElem? hi
      obtain ⟨p1, p2, cur, p3, p4⟩ := h.lin b' hm'
      have hlb : b'.lb ≠ b.lb := fun e => by
        have hil : i < L.bs.length := (List.getElem?_eq_some_iff.1 hi).1
        have e1 : (L.bs.map (·.lb))[i]'(by simpa using hil) = (L.bs.map (·.lb))[k]'(by simpa using hk) := by
          simp only [List.getElem_map]
          rw [List.getElem?_eq_getElem hil] at hi
          rw [List.getElem?_eq_getElem hk] at hb
          rw [Option.some.inj hi, Option.some.inj hb, e]
        rcases Nat.lt_or_gt_of_ne hik with q | q
        · exact List.pairwise_iff_getElem.1 hnd i k (by simpa using hil) (by simpa using hk) q e1
        · exact List.pairwise_iff_getElem.1 hnd k i (by simpa using hk) (by simpa using hil) q e1.symm
      refine ⟨p1, p2, cur, ?_, p4⟩
      rw [Below.heap_setCell _ _ _ _ (h.ne_kl hm').symm, Below.heap_setCell _ _ _ _ hlb]
      exact p3
  · show ((L.bs.set k { b with ls := b.ls.set j x }).map (·.lb)).Nodup
    have e : (L.bs.set k { b with ls := b.ls.set j x }).map (·.lb) = L.bs.map (·.lb) := by
      rw [List.map_set]
      apply List.ext_getElem (by simp)
      intro i h1 h2
      by_cases hik : i = k
      · subst hik
        rw [List.getElem_set_self]
        rw [List.getElem?_eq_getElem hk] at hb
        simp only [List.getElem_map]
        rw [Option.some.inj hb]
      · rw [List.getElem_set_ne (fun e => hik e.symm)]
    rw [e]
    exact hnd
  · have hb'' : b' ∈ L.bs.set k { b with ls := b.ls.set j x } := hb'
    rcases List.mem_or_eq_of_mem_set hb'' with q | rfl
    · exact h.lol b' q
    · exact h.lol b hm

/-- the blocks that the group owns -/
def Foot (L : Lay) (x : Nat) : Prop := x = L.gb ∨ (L.bs ≠ [] ∧ x = L.kb) ∨ ∃ b ∈ L.bs, x = b.lb
/-- what a function on the group leaves -/
structure Step (M : Nat) (w w' : World) (L L' : Lay) : Prop where
  pic : Pic w' M L'
  bel : Below M w w'
  far : ∀ x, x < w.heap.size → ¬ Foot L x → w'.heap[x]? = w.heap[x]?
  foot : ∀ x, Foot L' x → Foot L x ∨ w.heap.size ≤ x
theorem Step.trans {M : Nat} {w w1 w2 : World} {L L1 L2 : Lay} (a : Step M w w1 L L1) (b : Step M w1 w2 L1 L2) : Step M w w2 L L2 := by
  refine ⟨b.pic, a.bel.trans b.bel, fun x hx hn => ?_, fun x hx => ?_⟩
  · rw [b.far x (Nat.lt_of_lt_of_le hx a.bel.size) (fun h => ?_)]
    · exact a.far x hx hn
    · rcases a.foot x h with h | h
      · exact hn h
      · omega
  · rcases b.foot x hx with h | h
    · exact a.foot x h
    · exact .inr (Nat.le_trans a.bel.size h)
theorem Step.refl {M : Nat} {w : World} {L : Lay} (h : Pic w M L) : Step M w w L L := ⟨h, Below.refl _ _, fun _ _ _ => rfl, fun _ h => .inl h⟩
/-- a world that only grew -/
theorem Step.grew {M : Nat} {w w' : World} {L : Lay} (h : Pic w M L) (b : Below w.heap.size w w') (hM : M ≤ w.heap.size) : Step M w w' L L := ⟨h.up b, b.mono hM, fun x hx _ => b.block x hx, fun _ h => .inl h⟩
theorem Same.foot {L L' : Lay} (s : Same L L') {x : Nat} (h : Foot L' x) : Foot L x := by
  obtain ⟨s1, s2, s3, s4, s5⟩ := s
  unfold Foot at *
  rw [s1, s2, s5] at h
  exact h
theorem Step.setCell {M : Nat} {w : World} {L L' : Lay} (h : Pic w M L) (s : Same L L') {i : Nat} {v : Value}
    (hv : (#[L.hdr, .int .i64 L.base, .int .i64 L.first, .int .i64 L.count, .int .i64 L.high, .int .i64 L.last] : Array Value).setIfInBounds i v = #[L'.hdr, .int .i64 L'.base, .int .i64 L'.first, .int .i64 L'.count, .int .i64 L'.high, .int .i64 L'.last]) :
    Step M w (w.setCell ⟨L.gb, i, none⟩ v) L L' :=
  ⟨h.setCell s hv, (Below.refl _ _).setCell h.lo v, fun _ _ hn => Below.heap_setCell _ _ _ _ (fun e => hn (.inl e)), fun _ hx => .inl (s.foot hx)⟩

theorem step_hl {M : Nat} {w : World} {L : Lay} (h : Pic w M L) (a b : Int) : Step M w ((w.setCell ⟨L.gb, 4, none⟩ (.int .i64 a)).setCell ⟨L.gb, 5, none⟩ (.int .i64 b)) L { L with high := a, last := b } := by
  have s1 : Step M w (w.setCell ⟨L.gb, 4, none⟩ (.int .i64 a)) L { L with high := a } := Step.setCell (L' := { L with high := a }) h ⟨rfl, rfl, rfl, rfl, rfl⟩ rfl
  have s2 : Step M (w.setCell ⟨L.gb, 4, none⟩ (.int .i64 a)) ((w.setCell ⟨L.gb, 4, none⟩ (.int .i64 a)).setCell ⟨L.gb, 5, none⟩ (.int .i64 b)) { L with high := a } { L with high := a, last := b } := Step.setCell (L := { L with high := a }) (L' := { L with high := a, last := b }) s1.pic ⟨rfl, rfl, rfl, rfl, rfl⟩ rfl
  exact s1.trans s2

set_option maxHeartbeats 3200000 in
set_option maxRecDepth 100000 in
theorem raise_any {w : World} {M : Nat} {L : Lay} (h : Pic w M L) (n : Int) :
    Calls Yba.prog 14 #[.pointer (some ⟨L.gb, 0, none⟩), .int .i64 n] w fun e w' => e = .returned (.tuple #[]) ∧ ∃ hi la, Step M w w' L { L with high := hi, last := la } := by
  obtain ⟨f0, f1, f2, f3, f4, f5, ff⟩ := h.fields
  have hgl := h.lt
  have f4f := ff 4
  have f5f := ff 5
  have HH := hide h
  clear h ff
  go_enter Yba.func14, Yba.ntmps14
  go_wp2_with fail
  all_goals
    go_end0
    exact ⟨rfl, _, _, step_hl HH.out _ _⟩
end Go.Proofs.Ybulkdcko
