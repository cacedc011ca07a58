/-
  THE WALK of drop.
-/
import Derived.Test.YbulkdckoPut
namespace Go.Proofs.Ybulkdcko
open Go.RowKit

theorem heldOf_pos {ls : List Int} {j : Nat} {x : Int} (h : ls[j]? = some x) (hx : x ≠ -1) : 0 < heldOf ls := by
  unfold heldOf
  rw [List.countP_pos_iff]
  exact ⟨x, List.mem_of_getElem? h, by simpa using hx⟩
theorem heldOf_vacate : ∀ {ls : List Int} {j : Nat} {x : Int}, ls[j]? = some x → x ≠ -1 → heldOf (ls.set j (-1)) + 1 = heldOf ls
  | [], _, _, h, _ => by simp at h
  | a :: ls, 0, x, h, hx => by
    simp at h
    subst h
    simp [heldOf, hx]
  | a :: ls, j + 1, x, h, hx => by
    have ih := heldOf_vacate (ls := ls) (j := j) (x := x) (by simpa using h) hx
    unfold heldOf at *
    simp only [List.set_cons_succ, List.countP_cons]
    omega
theorem shaped_put {L : Lay} (hs : Shaped L) {k : Nat} {b : Blk} (hb : L.bs[k]? = some b) (j : Nat) (x : Int) (c : Int) : Shaped { L.put k b j x with count := c } := by
  have hk : k < L.bs.length := (List.getElem?_eq_some_iff.1 hb).1
  have hm := List.mem_of_getElem? hb
  refine ⟨hs.b1, hs.b2, fun b' hb' => ?_, fun i b' hb' hi => ?_, fun hne => ?_⟩
  · have hb'' : b' ∈ L.bs.set k { b with ls := b.ls.set j x } := hb'
    rcases List.mem_or_eq_of_mem_set hb'' with q | rfl
    · exact hs.le b' q
    · simpa using hs.le b hm
  · have hb'' : (L.bs.set k { b with ls := b.ls.set j x })[i]? = some b' := hb'
    have hi' : i + 1 < L.bs.length := by simpa [Lay.put] using hi
    by_cases hik : i = k
    · subst hik
      rw [List.getElem?_set_self hk] at hb''
      obtain rfl := Option.some.inj hb''
      simpa using hs.full i b hb hi'
    · rw [List.getElem?_set_ne (fun e => hik e.symm)] at hb''
      exact hs.full i b' hb'' hi'
  · exact hs.lf (fun e => hne (by simp [Lay.put, e]))
theorem endN_put {L : Lay} {k : Nat} {b : Blk} (hb : L.bs[k]? = some b) (j : Nat) (x : Int) (c : Int) : Lay.endN { L.put k b j x with count := c } = L.endN := by
  have hk : k < L.bs.length := (List.getElem?_eq_some_iff.1 hb).1
  unfold Lay.endN
  have e : (L.put k b j x).bs.getLast? = (L.bs.set k { b with ls := b.ls.set j x })[L.bs.length - 1]? := by
    rw [List.getLast?_eq_getElem?]
    simp [Lay.put]
  show (match (L.put k b j x).bs.getLast? with | none => L.first | some b' => L.base + (((L.put k b j x).bs.length : Int) - 1) * 4096 + (b'.ls.length : Int)) = _
  rw [e, List.getLast?_eq_getElem?]
  by_cases hik : L.bs.length - 1 = k
  · rw [hik, List.getElem?_set_self hk, hb]
    simp [Lay.put]
  · rw [List.getElem?_set_ne (fun e => hik e.symm)]
    cases L.bs[L.bs.length - 1]? <;> simp [Lay.put]

/-- the leading d blocks let go -/
def Lay.chop (L : Lay) (d : Nat) : Lay := { L with bs := L.bs.drop d, base := L.base + (d : Int) * 4096, ko := L.ko + d * 2, kc := L.kc - d }
/-- line j of block k vacated, the count lowered, first set -/
def Lay.after (L : Lay) (k : Nat) (b : Blk) (j : Nat) (f : Int) : Lay := { L.put k b j (-1) with count := L.count - 1, first := f }
/-- what drop leaves -/
def Dropped (L : Lay) (k : Nat) (b : Blk) (j i : Nat) (L' : Lay) : Prop :=
  (L.count = 1 ∧ L' = { L.put k b j (-1) with count := 0, bs := [] }) ∨
  (L.count ≠ 1 ∧ ∃ f d : _, (if L.base + (i : Int) = L.first then ∃ i' x', i + 1 ≤ i' ∧ f = L.base + (i' : Nat) ∧ valAt (L.put k b j (-1)) i' = some x' ∧ x' ≠ -1 ∧ ∀ i'' x'', i + 1 ≤ i'' → i'' < i' → valAt (L.put k b j (-1)) i'' = some x'' → x'' = -1 else f = L.first) ∧
    L' = Lay.chop { L.put k b j (-1) with count := L.count - 1, first := f } d ∧ (f - L.base) / 4096 = (d : Int))

set_option maxHeartbeats 6400000 in
set_option maxRecDepth 100000 in
theorem drop_none {w : World} {M : Nat} {L : Lay} (h : Pic w M L) (hs : Shaped L) (n : Int) (hl : (lineP L n).2 = false) :
    Calls Yba.prog 4 #[.pointer (some ⟨L.gb, 0, none⟩), .int .i64 n] w fun e w' => e = .returned (.tuple #[]) ∧ Below w.heap.size w w' := by
  have HL := hide (line_any h hs n)
  rw [hl] at HL
  generalize (lineP L n).1 = x at *
  clear h hs hl
  go_enter Yba.func4, Yba.ntmps4
  go_wp2_with fail
  refine HL.out.mono ?_
  rintro e w1 ⟨rfl, k, rfl⟩
  go_wp2_with fail
  first
  | (go_end0; exact ⟨rfl, below_drewN (Below.refl _ _) _⟩)
  | exact bodyPost_ret (v := .tuple #[]) (by simp [results, Yba.results4, go_sem]) rfl ⟨rfl, below_drewN (Below.refl _ _) _⟩

theorem step_put {M : Nat} {w : World} {L : Lay} (h : Pic w M L) {k : Nat} {b : Blk} (hb : L.bs[k]? = some b) {j : Nat} (hj : j < b.ls.length) (x : Int) (v : Value) (hv : v = .int .i64 (heldOf (b.ls.set j x) : Nat)) :
    Step M w ((w.setCell ⟨b.lb, j, none⟩ (.int .i64 x)).setCell ⟨L.kb, L.ko + k * 2 + 1, none⟩ v) L (L.put k b j x) := by
  have hm := List.mem_of_getElem? hb
  have hne : L.bs ≠ [] := fun e => by rw [e] at hm; simp at hm
  refine ⟨h.put hb hj x v hv, ((Below.refl _ _).setCell (h.lol b hm) _).setCell (h.lok hne) _, fun y _ hn => ?_, fun y hy => .inl ?_⟩
  · rw [Below.heap_setCell _ _ _ _ (fun e => hn (.inr (.inl ⟨hne, e⟩))), Below.heap_setCell _ _ _ _ (fun e => hn (.inr (.inr ⟨b, hm, e⟩)))]
  · rcases hy with q | ⟨_, q⟩ | ⟨b', hb', q⟩
    · exact .inl q
    · exact .inr (.inl ⟨hne, q⟩)
    · have hb'' : b' ∈ L.bs.set k { b with ls := b.ls.set j x } := hb'
      rcases List.mem_or_eq_of_mem_set hb'' with r | rfl
      · exact .inr (.inr ⟨b', r, q⟩)
      · exact .inr (.inr ⟨b, hm, q⟩)

theorem step_nil {M : Nat} {w : World} {L : Lay} (h : Pic w M L) : Step M w (w.setCell ⟨L.gb, 0, none⟩ (.slice none 0 0)) L { L with bs := [] } := by
  refine ⟨⟨?_, fun hne => absurd rfl hne, Nat.zero_le _, h.small, Nat.zero_le _, fun b hb => by simp at hb, by simp, h.lo, fun hne => absurd rfl hne, fun b hb => by simp at hb⟩, (Below.refl _ _).setCell h.lo _, fun y _ hn => Below.heap_setCell _ _ _ _ (fun e => hn (.inl e)), fun y hy => .inl ?_⟩
  · rw [heap_set h.grp]
    rfl
  · rcases hy with q | ⟨q, _⟩ | ⟨b, q, _⟩
    · exact .inl q
    · exact absurd rfl q
    · simp at q

theorem step_chop {M : Nat} {w : World} {L : Lay} (h : Pic w M L) (h2 : 2 ≤ L.bs.length) :
    Step M w ((((w.setCell ⟨L.kb, L.ko, none⟩ (.slice none 0 0)).setCell ⟨L.kb, L.ko + 1, none⟩ (.int .i64 0)).setCell ⟨L.gb, 0, none⟩ (.slice (some ⟨L.kb, L.ko + 2, none⟩) (L.bs.length - 1) (L.kc - 1))).setCell ⟨L.gb, 1, none⟩ (.int .i64 (L.base + 4096))) L (L.chop 1) := by
  have hne : L.bs ≠ [] := fun e => by rw [e] at h2; simp at h2
  have hne2 : L.bs.drop 1 ≠ [] := fun e => by
    have := congrArg List.length e
    simp at this
    omega
  have n1 := h.ne_k hne
  have hroom := h.room
  have hmem : ∀ b, b ∈ L.bs.drop 1 → b ∈ L.bs := fun b hb => List.mem_of_mem_drop hb
  refine ⟨⟨?_, fun _ => ?_, by simp [Lay.chop]; omega, by have := h.small; simp [Lay.chop]; omega, by have := h.few; simp [Lay.chop]; omega, fun b hb => ?_, ?_, h.lo, fun _ => h.lok hne, fun b hb => h.lol b (hmem b hb)⟩, ?_, fun y _ hn => ?_, fun y hy => .inl ?_⟩
  · have g1 : ((w.setCell ⟨L.kb, L.ko, none⟩ (.slice none 0 0)).setCell ⟨L.kb, L.ko + 1, none⟩ (.int .i64 0)).heap[L.gb]? = _ := (Below.heap_setCell _ _ _ _ n1).trans ((Below.heap_setCell _ _ _ _ n1).trans h.grp)
    have g2 := heap_set (i := 0) g1 (.slice (some ⟨L.kb, L.ko + 2, none⟩) (L.bs.length - 1) (L.kc - 1))
    have g3 := heap_set (i := 1) g2 (.int .i64 (L.base + 4096))
    show (((((w.setCell ⟨L.kb, L.ko, none⟩ (.slice none 0 0)).setCell ⟨L.kb, L.ko + 1, none⟩ (.int .i64 0)).setCell ⟨L.gb, 0, none⟩ (.slice (some ⟨L.kb, L.ko + 2, none⟩) (L.bs.length - 1) (L.kc - 1))).setCell ⟨L.gb, 1, none⟩ (.int .i64 (L.base + 4096)))).heap[L.gb]? = _
    rw [g3]
    have e : (L.chop 1).hdr = .slice (some ⟨L.kb, L.ko + 2, none⟩) (L.bs.length - 1) (L.kc - 1) := by
      rw [Pic.hdr_some (L := L.chop 1) hne2]
      simp [Lay.chop]
    rw [e]
    simp [Lay.chop]
  · obtain ⟨cur, c1, c2, c3⟩ := h.arr hne
    have g1 := heap_set (i := L.ko) c1 (.slice none 0 0)
    have g2 := heap_set (i := L.ko + 1) g1 (.int .i64 0)
    refine ⟨(cur.setIfInBounds L.ko (.slice none 0 0)).setIfInBounds (L.ko + 1) (.int .i64 0), ?_, by simp [Lay.chop, c2]; omega, fun i b hb => ?_⟩
    · show (((((w.setCell ⟨L.kb, L.ko, none⟩ (.slice none 0 0)).setCell ⟨L.kb, L.ko + 1, none⟩ (.int .i64 0)).setCell ⟨L.gb, 0, none⟩ (.slice (some ⟨L.kb, L.ko + 2, none⟩) (L.bs.length - 1) (L.kc - 1))).setCell ⟨L.gb, 1, none⟩ (.int .i64 (L.base + 4096)))).heap[L.kb]? = _
      rw [Below.heap_setCell _ _ _ _ n1.symm, Below.heap_setCell _ _ _ _ n1.symm]
      exact g2
    · have hb' : L.bs[1 + i]? = some b := by
        have : (L.bs.drop 1)[i]? = some b := hb
        rwa [List.getElem?_drop] at this
      obtain ⟨q1, q2⟩ := c3 (1 + i) b hb'
      show ((cur.setIfInBounds L.ko (.slice none 0 0)).setIfInBounds (L.ko + 1) (.int .i64 0))[L.ko + 1 * 2 + i * 2]? = _ ∧ ((cur.setIfInBounds L.ko (.slice none 0 0)).setIfInBounds (L.ko + 1) (.int .i64 0))[L.ko + 1 * 2 + i * 2 + 1]? = _
      refine ⟨?_, ?_⟩
      · rw [Array.getElem?_setIfInBounds_ne (by omega), Array.getElem?_setIfInBounds_ne (by omega), show L.ko + 1 * 2 + i * 2 = L.ko + (1 + i) * 2 by omega]
        exact q1
      · rw [Array.getElem?_setIfInBounds_ne (by omega), Array.getElem?_setIfInBounds_ne (by omega), show L.ko + 1 * 2 + i * 2 + 1 = L.ko + (1 + i) * 2 + 1 by omega]
        exact q2
  · have hb' := hmem b hb
    obtain ⟨p1, p2, cur, p3, p4⟩ := h.lin b hb'
    refine ⟨p1, p2, cur, ?_, p4⟩
    have m1 := (h.ne_l hb').symm
    have m2 := (h.ne_kl hb').symm
    rw [Below.heap_setCell _ _ _ _ m1, Below.heap_setCell _ _ _ _ m1, Below.heap_setCell _ _ _ _ m2, Below.heap_setCell _ _ _ _ m2]
    exact p3
  · show ((L.bs.drop 1).map (·.lb)).Nodup
    rw [List.map_drop]
    exact List.Nodup.sublist (List.drop_sublist _ _) h.nd
  · exact (((((Below.refl _ _).setCell (h.lok hne) _).setCell (h.lok hne) _).setCell h.lo _).setCell h.lo _)
  · have m1 : y ≠ L.gb := fun e => hn (.inl e)
    have m2 : y ≠ L.kb := fun e => hn (.inr (.inl ⟨hne, e⟩))
    rw [Below.heap_setCell _ _ _ _ m1, Below.heap_setCell _ _ _ _ m1, Below.heap_setCell _ _ _ _ m2, Below.heap_setCell _ _ _ _ m2]
  · rcases hy with q | ⟨_, q⟩ | ⟨b, hb, q⟩
    · exact .inl q
    · exact .inr (.inl ⟨hne, q⟩)
    · exact .inr (.inr ⟨b, hmem b hb, q⟩)
theorem chop_chop (L : Lay) (d : Nat) : (L.chop d).chop 1 = L.chop (d + 1) := by
  unfold Lay.chop
  simp only [List.drop_drop, Lay.mk.injEq, true_and, and_true]
  refine ⟨?_, ?_, ?_⟩ <;> omega
theorem chop_zero (L : Lay) : L.chop 0 = L := by
  unfold Lay.chop
  simp

set_option maxHeartbeats 6400000 in
set_option maxRecDepth 100000 in
theorem drop_some {w : World} {M : Nat} {L : Lay} (h : Pic w M L) (hs : Shaped L) (hM : M ≤ w.heap.size) (n : Int) (i k j : Nat) (b : Blk) (x : Int) (hi : i = k * 4096 + j) (hj4 : j < 4096) (hn : n = L.base + (i : Nat)) (hf : L.first ≤ n) (he : n < L.endN)
    (hb : L.bs[k]? = some b) (hx : b.ls[j]? = some x) (hx1 : x ≠ -1) (hc1 : 1 ≤ L.count) (hc2 : L.count ≤ 1000000)
    (hnext : L.count ≠ 1 → n = L.first → ∃ i' x', i + 1 ≤ i' ∧ valAt (L.put k b j (-1)) i' = some x' ∧ x' ≠ -1) :
    Calls Yba.prog 4 #[.pointer (some ⟨L.gb, 0, none⟩), .int .i64 n] w fun e w' => e = .returned (.tuple #[]) ∧ ∃ L', Dropped L k b j i L' ∧ Step M w w' L L' := by
  have hjl : j < b.ls.length := (List.getElem?_eq_some_iff.1 hx).1
  have hkl : k < L.bs.length := (List.getElem?_eq_some_iff.1 hb).1
  have hm := List.mem_of_getElem? hb
  have hik : i / 4096 = k := by omega
  have hij : i % 4096 = j := by omega
  have hlp : lineP L n = (x, true) := by
    unfold lineP
    rw [if_neg (by omega), show (n - L.base).toNat = i by omega, hik, hij, hb]
    simp [List.getD, hx, hx1]
  have HL := hide (line_any h hs n)
  rw [hlp] at HL
  have hi6 : i < 10000000 := by have := h.few; omega
  have HP : Hid (∀ q, Calls Yba.prog 7 #[.pointer (some ⟨L.gb, 0, none⟩), .int .i64 n] (w.drewN q) fun e w' => e = .returned (.tuple #[.pointer (some ⟨L.kb, L.ko + k * 2, none⟩), .int .i64 ((j : Nat) : Int)]) ∧ ∃ n, w' = (w.drewN q).drewN n) := fun q => by
    have := place_any (h.drewN q) i hi6 (by omega)
    rw [hik, hij, ← hn] at this
    exact this
  have HH := hide h
  have HS := hide hs
  have hhp := heldOf_pos hx hx1
  have hhv := heldOf_vacate hx hx1
  have n3 := h.ne_kl hm
  have hcap := (h.lin b hm).2.1
  have hbl := hs.le b hm
  have HI := hide (And.intro hi hn)
  have HV := hide hhv
  have HX := hide (And.intro hx hx1)
  have HNX := hide hnext
  have HB := hide hb
  have HM := hide hm
  clear h hs hlp hi hn hik hij hhv hx hx1 hnext hb hm hi6
  go_enter Yba.func4, Yba.ntmps4
  go_wp2_with fail
  refine HL.out.mono ?_
  rintro e w1 ⟨rfl, q1, rfl⟩
  go_wp2_with fail
  refine (HP.out q1).mono ?_
  rintro e w1 ⟨rfl, q2, rfl⟩
  have S1 : Step M w ((w.drewN q1).drewN q2) L L := Step.grew HH.out (below_drewN (below_drewN (Below.refl _ _) q1) q2) hM
  have HS1 := hide S1
  have P1 := S1.pic
  have g1 := (P1.blk HB.out).1
  have g2 := (P1.blk HB.out).2.1
  have g3 := (P1.blk HB.out).2.2.1
  have g4 := (P1.blk HB.out).2.2.2 (L.ko + k * 2 + 1)
  have l1 := (P1.line HM.out HX.out.1).1
  have l2 := (P1.line HM.out HX.out.1).2.1
  have l3 := (P1.line HM.out HX.out.1).2.2 j
  clear S1 HL HP P1
  simp only [World.drewN_drewN] at *
  generalize w.drewN (q1 + q2) = W1 at *
  go_upto_region 4 with fail
  have g2' : (W1.setCell ⟨b.lb, j, none⟩ (.int .i64 (-1))).cell? ⟨L.kb, L.ko + k * 2 + 1, none⟩ = some (.int .i64 (heldOf b.ls : Nat)) := (World.cell?_of_block (w := W1) (Below.heap_setCell _ _ _ _ n3)).trans g2
  have g4' : (W1.setCell ⟨b.lb, j, none⟩ (.int .i64 (-1))).frozen? ⟨L.kb, L.ko + k * 2 + 1, none⟩ = false := by rw [World.frozen?_setCell]; exact g4
  have hhl : (heldOf b.ls : Int) ≤ 4096 := by have : heldOf b.ls ≤ b.ls.length := List.countP_le_length; omega
  have S2 : Hid (Step M w ((W1.setCell ⟨b.lb, j, none⟩ (.int .i64 (-1))).setCell ⟨L.kb, L.ko + k * 2 + 1, none⟩ (.int .i64 ((heldOf b.ls : Int) - 1))) L (L.put k b j (-1))) :=
    HS1.out.trans (step_put HS1.out.pic HB.out hjl (-1) _ (by have := HV.out; congr 1; omega))
  clear g1 g2 g3 g4 l1 l2 l3 HS1
  generalize W1.setCell ⟨b.lb, j, none⟩ (.int .i64 (-1)) = W2 at *
  go_upto_region 5 with fail
  clear g2' g4'
  generalize W2.setCell ⟨L.kb, L.ko + k * 2 + 1, none⟩ (.int .i64 ((heldOf b.ls : Int) - 1)) = W3 at *
  have c3 : W3.cell? ⟨L.gb, 3, none⟩ = some (.int .i64 L.count) := S2.out.pic.fields.2.2.2.1
  have c3f : W3.frozen? ⟨L.gb, 3, none⟩ = false := S2.out.pic.fields.2.2.2.2.2.2 3
  have S3 : Hid (Step M w (W3.setCell ⟨L.gb, 3, none⟩ (.int .i64 (L.count - 1))) L { L.put k b j (-1) with count := L.count - 1 }) :=
    S2.out.trans (Step.setCell (L := L.put k b j (-1)) (L' := { L.put k b j (-1) with count := L.count - 1 }) S2.out.pic ⟨rfl, rfl, rfl, rfl, rfl⟩ rfl)
  clear S2
  go_upto_region 6 with fail
  clear c3 c3f
  generalize W3.setCell ⟨L.gb, 3, none⟩ (.int .i64 (L.count - 1)) = W4 at *
  have d0 : W4.cell? ⟨L.gb, 0, none⟩ = some L.hdr := by
    have := S3.out.pic.fields.1
    rw [show Lay.hdr { L.put k b j (-1) with count := L.count - 1 } = L.hdr from hdr_put L k b j (-1)] at this
    exact this
  have d1 : W4.cell? ⟨L.gb, 1, none⟩ = some (.int .i64 L.base) := S3.out.pic.fields.2.1
  have d2 : W4.cell? ⟨L.gb, 2, none⟩ = some (.int .i64 L.first) := S3.out.pic.fields.2.2.1
  have d3 : W4.cell? ⟨L.gb, 3, none⟩ = some (.int .i64 (L.count - 1)) := S3.out.pic.fields.2.2.2.1
  have df := S3.out.pic.fields.2.2.2.2.2.2
  have df0 : W4.frozen? ⟨L.gb, 0, none⟩ = false := df 0
  have df2 : W4.frozen? ⟨L.gb, 2, none⟩ = false := df 2
  clear df
  by_cases hone : L.count = 1
  · have hz : L.count - 1 = 0 := by omega
    have S4 : Hid (Step M w (W4.setCell ⟨L.gb, 0, none⟩ (.slice none 0 0)) L { L.put k b j (-1) with count := 0, bs := [] }) := by
      have := S3.out.trans (step_nil S3.out.pic)
      rw [hz] at this
      exact this
    rw [hz] at d3
    clear S3
    rw [Pic.hdr_some (fun e => by rw [e] at hkl; simp at hkl)] at d0
    go_wp2_with fail
    first
    | (go_end0; exact ⟨rfl, _, .inl ⟨hone, rfl⟩, S4.out⟩)
    | exact bodyPost_ret (v := .tuple #[]) (by simp [results, Yba.results4, go_sem]) rfl ⟨rfl, _, .inl ⟨hone, rfl⟩, S4.out⟩
  · have hz : ¬ (L.count - 1 = 0) := by omega
    have hz' : (L.count - 1 == 0) = false := by simpa using hz
    go_upto_region 8 with fail
    have hhd := Pic.hdr_some (L := L) (fun e => by rw [e] at hkl; simp at hkl)
    rw [hhd] at d0
    clear d3 hz hz' df0
    by_cases hfirst : n = L.first
    · subst hfirst
      have HA : Hid (Calls Yba.prog 8 #[.pointer (some ⟨L.gb, 0, none⟩), .int .i64 L.first] W4 fun e w' => ∃ i' x, i + 1 ≤ i' ∧ valAt (L.put k b j (-1)) i' = some x ∧ x ≠ -1 ∧ (∀ i'' x', i + 1 ≤ i'' → i'' < i' → valAt (L.put k b j (-1)) i'' = some x' → x' = -1) ∧ e = .returned (.tuple #[.agg #[.int .i64 (L.base + (i' : Nat)), .int .i64 x], .bool true]) ∧ Below W4.heap.size W4 w') :=
        above_any S3.out.pic (shaped_put HS.out HB.out j (-1) (L.count - 1)) L.first (i + 1) (by have := HI.out.2; show L.first + 1 = L.base + _; omega) (Int.le_refl _) (by rw [endN_put HB.out]; exact he) (HNX.out hone rfl)
      go_wp2_with fail
      refine HA.out.mono ?_
      rintro e w5 ⟨i', x', a1, a2, a3, a4, rfl, B5⟩
      have S5 := S3.out.trans (Step.grew S3.out.pic B5 (Nat.le_trans hM S3.out.bel.size))
      have d2' : w5.cell? ⟨L.gb, 2, none⟩ = some (.int .i64 L.first) := S5.pic.fields.2.2.1
      have df2' : w5.frozen? ⟨L.gb, 2, none⟩ = false := S5.pic.fields.2.2.2.2.2.2 2
      have hgl5 : L.gb < w5.heap.size := S5.pic.lt
      have HS5 := hide S5
      clear S5 d0 d1 d2 df2 S3 B5 HA
      go_upto_region 11 with fail
      have HS6 : Hid (Step M w ((w5.setCell ⟨L.gb, 2, none⟩ (.int .i64 (L.base + (i' : Nat)))).alloc (Obj.cells #[.int .i64 (L.base + (i' : Nat)), .int .i64 x'] 43)) L (Lay.after L k b j (L.base + (i' : Nat)))) := by
        have s1 : Step M w (w5.setCell ⟨L.gb, 2, none⟩ (.int .i64 (L.base + (i' : Nat)))) L (Lay.after L k b j (L.base + (i' : Nat))) := HS5.out.trans (Step.setCell (L := { L.put k b j (-1) with count := L.count - 1 }) (L' := Lay.after L k b j (L.base + (i' : Nat))) HS5.out.pic ⟨rfl, rfl, rfl, rfl, rfl⟩ rfl)
        exact s1.trans (Step.grew s1.pic ((Below.refl _ _).alloc (Nat.le_refl _) _) (Nat.le_trans hM s1.bel.size))
      generalize (w5.setCell ⟨L.gb, 2, none⟩ (.int .i64 (L.base + (i' : Nat)))).alloc (Obj.cells #[.int .i64 (L.base + (i' : Nat)), .int .i64 x'] 43) = W6 at *
      clear d2' df2' hgl5 HS5
      obtain ⟨D, hD⟩ : ∃ D, D = i' / 4096 := ⟨_, rfl⟩
      have hDl : D < L.bs.length := by
        unfold valAt at a2
        cases hbb : (L.put k b j (-1)).bs[i' / 4096]? with
        | none =>
          rw [hbb] at a2; simp at a2
        | some bb =>
          have := (List.getElem?_eq_some_iff.1 hbb).1
          simp [Lay.put] at this
          omega
      have HFD : Hid (L.base + (D : Int) * 4096 ≤ L.base + (i' : Nat) ∧ L.base + (i' : Nat) < L.base + (D : Int) * 4096 + 4096) := by show _ ∧ _; omega
      have HA := hide (And.intro a1 (And.intro a2 (And.intro a3 a4)))
      have HDD := hide hD
      clear a1 a2 a3 a4 hD
      go_loopg [69] D (fun gq s69 wr => ∃ d : Nat, gq = D - d ∧ d ≤ D ∧ Hid (Step M w wr L (Lay.chop (Lay.after L k b j (L.base + (i' : Nat))) d)))
      case atStart => exact ⟨0, rfl, Nat.zero_le _, (chop_zero (Lay.after L k b j (L.base + (i' : Nat)))).symm ▸ HS6⟩
      case round =>
        clear HS6
        obtain ⟨d, hgq, hd, HSd⟩ := hrel
        obtain ⟨L4, hL4⟩ : ∃ L4, L4 = Lay.chop (Lay.after L k b j (L.base + (i' : Nat))) d := ⟨_, rfl⟩
        have HSd' : Hid (Step M w wr L L4) := by rw [hL4]; exact HSd.out
        have eg : L4.gb = L.gb := by rw [hL4]; rfl
        have el : L4.bs.length = L.bs.length - d := by rw [hL4]; simp [Lay.chop, Lay.after, Lay.put]
        have eb : L4.base = L.base + (d : Int) * 4096 := by rw [hL4]; rfl
        have ef : L4.first = L.base + (i' : Nat) := by rw [hL4]; rfl
        have hne4 : L4.bs ≠ [] := fun e => by rw [e] at el; simp at el; omega
        obtain ⟨f0, f1, f2, _, _, _, ff⟩ := HSd'.out.pic.fields
        rw [Pic.hdr_some hne4] at f0
        rw [eg] at f0 f1 f2 ff
        have ff0 := ff 0
        have ff1 := ff 1
        have HL4 := hide hL4
        have HG := hide eg
        have HEB := hide eb
        have HEF := hide ef
        have hgl : L.gb < wr.heap.size := by have := HSd'.out.pic.lt; omega
        have hroom4 := HSd'.out.pic.room
        have hfew4 := HSd'.out.pic.few
        have hfd := HFD.out
        have hb4 : -100000000 ≤ L4.base ∧ L4.base ≤ 100000000 := by have := HS.out.b1; have := HS.out.b2; have := HH.out.few; omega
        obtain ⟨hb41, hb42⟩ := hb4
        by_cases hdD : d < D
        · have h2 : 2 ≤ L4.bs.length := by omega
          have hge : (4096 : Int) ≤ L4.first - L4.base := by omega
          have hub : L4.first - L4.base ≤ 100000000 := by have := HH.out.few; omega
          have hsw : IntKind.i64.wrap (L4.first - L4.base) = L4.first - L4.base := by rw [IntKind.wrap_i64]; omega
          obtain ⟨b0, hb0⟩ : ∃ b0, L4.bs[0]? = some b0 := ⟨_, List.getElem?_eq_getElem (by omega)⟩
          have k1 := (HSd'.out.pic.blk hb0).1
          have k2 := (HSd'.out.pic.blk hb0).2.1
          have k3 := (HSd'.out.pic.blk hb0).2.2.1
          have k4 := (HSd'.out.pic.blk hb0).2.2.2
          simp only [Nat.zero_mul, Nat.add_zero] at k1 k2
          have k40 := k4 L4.ko
          have k41 := k4 (L4.ko + 1)
          have nk := HSd'.out.pic.ne_k hne4
          rw [eg] at nk
          have HSC : Hid (∀ W, Step M w W L L4 → Step M w ((((W.setCell ⟨L4.kb, L4.ko, none⟩ (.slice none 0 0)).setCell ⟨L4.kb, L4.ko + 1, none⟩ (.int .i64 0)).setCell ⟨L.gb, 0, none⟩ (.slice (some ⟨L4.kb, L4.ko + 2, none⟩) (L4.bs.length - 1) (L4.kc - 1))).setCell ⟨L.gb, 1, none⟩ (.int .i64 (L4.base + 4096))) L (L4.chop 1)) := fun W hW => by
            have := hW.trans (step_chop hW.pic h2)
            rw [eg] at this
            exact this
          have hkc : 1 < L4.kc := by omega
          have hkc' : ¬ L4.kc = 1 := by omega
          have HSd2 := hide (HSd'.out.pic)
          clear hL4 eg eb ef ff k4 hb0 HSd el hfd hd hne4
          generalize hnb : L4.bs.length = nb at *
          have HNB := hide hnb
          clear hnb
          go_upto_region 11 with fail
          go_quiet (fail)
          have HSq : Hid (Step M w (wr.drewN nq) L L4) := HSd'.out.trans (Step.grew HSd2.out (below_drewN (Below.refl _ _) nq) (Nat.le_trans hM HSd'.out.bel.size))
          have f0q : (wr.drewN nq).cell? ⟨L.gb, 0, none⟩ = some (.slice (some ⟨L4.kb, L4.ko, none⟩) nb L4.kc) := f0
          have f1q : (wr.drewN nq).cell? ⟨L.gb, 1, none⟩ = some (.int .i64 L4.base) := f1
          have k1q : (wr.drewN nq).cell? ⟨L4.kb, L4.ko, none⟩ = some (.slice (some ⟨b0.lb, 0, none⟩) b0.ls.length b0.cap) := k1
          have k2q : (wr.drewN nq).cell? ⟨L4.kb, L4.ko + 1, none⟩ = some (.int .i64 (heldOf b0.ls : Nat)) := k2
          have k40q : (wr.drewN nq).frozen? ⟨L4.kb, L4.ko, none⟩ = false := k40
          have k41q : (wr.drewN nq).frozen? ⟨L4.kb, L4.ko + 1, none⟩ = false := k41
          have ff0q : (wr.drewN nq).frozen? ⟨L.gb, 0, none⟩ = false := ff0
          have ff1q : (wr.drewN nq).frozen? ⟨L.gb, 1, none⟩ = false := ff1
          have hglq : L.gb < (wr.drewN nq).heap.size := hgl
          clear f0 f1 f2 k1 k2 k40 k41 ff0 ff1 hgl HSd' HSd2 k3
          generalize wr.drewN nq = Wq at *
          go_upto_region 13 with fail
          have S13 := hide (HSC.out Wq HSq.out)
          have f0r : ((Wq.setCell ⟨L4.kb, L4.ko, none⟩ (.slice none 0 0)).setCell ⟨L4.kb, L4.ko + 1, none⟩ (.int .i64 0)).cell? ⟨L.gb, 0, none⟩ = some (.slice (some ⟨L4.kb, L4.ko, none⟩) nb L4.kc) := (World.cell?_of_block (w := Wq) ((Below.heap_setCell _ _ _ _ nk).trans (Below.heap_setCell _ _ _ _ nk))).trans f0q
          have f1r : ((Wq.setCell ⟨L4.kb, L4.ko, none⟩ (.slice none 0 0)).setCell ⟨L4.kb, L4.ko + 1, none⟩ (.int .i64 0)).cell? ⟨L.gb, 1, none⟩ = some (.int .i64 L4.base) := (World.cell?_of_block (w := Wq) ((Below.heap_setCell _ _ _ _ nk).trans (Below.heap_setCell _ _ _ _ nk))).trans f1q
          have ff0r : ((Wq.setCell ⟨L4.kb, L4.ko, none⟩ (.slice none 0 0)).setCell ⟨L4.kb, L4.ko + 1, none⟩ (.int .i64 0)).frozen? ⟨L.gb, 0, none⟩ = false := by rw [World.frozen?_setCell, World.frozen?_setCell]; exact ff0q
          have ff1r : ((Wq.setCell ⟨L4.kb, L4.ko, none⟩ (.slice none 0 0)).setCell ⟨L4.kb, L4.ko + 1, none⟩ (.int .i64 0)).frozen? ⟨L.gb, 1, none⟩ = false := by rw [World.frozen?_setCell, World.frozen?_setCell]; exact ff1q
          clear f0q f1q k1q k2q k40q k41q ff0q ff1q HSq HSC
          generalize (Wq.setCell ⟨L4.kb, L4.ko, none⟩ (.slice none 0 0)).setCell ⟨L4.kb, L4.ko + 1, none⟩ (.int .i64 0) = Wr at *
          go_region
          have S14 : Hid (Step M w ((Wr.setCell ⟨L.gb, 0, none⟩ (.slice (some ⟨L4.kb, L4.ko + 2, none⟩) (nb - 1) (L4.kc - 1))).setCell ⟨L.gb, 1, none⟩ (.int .i64 (L4.base + 4096))).drew L (Lay.chop (Lay.after L k b j (L.base + (i' : Nat))) (d + 1))) := by
            have s1 := S13.out
            rw [HL4.out, chop_chop, ← HL4.out] at s1
            exact s1.trans (Step.grew s1.pic (Below.refl _ _).drew (Nat.le_trans hM s1.bel.size))
          generalize ((Wr.setCell ⟨L.gb, 0, none⟩ (.slice (some ⟨L4.kb, L4.ko + 2, none⟩) (nb - 1) (L4.kc - 1))).setCell ⟨L.gb, 1, none⟩ (.int .i64 (L4.base + 4096))).drew = Ws at *
          clear f0r f1r ff0r ff1r S13
          go_wp2_with fail
          go_roundg (D - (d + 1))
          case measure => omega
          case rel => exact ⟨d + 1, rfl, by omega, S14⟩
        · have hlt4 : L4.first - L4.base < 4096 := by omega
          have hlb4 : 0 ≤ L4.first - L4.base := by omega
          have hsw : IntKind.i64.wrap (L4.first - L4.base) = L4.first - L4.base := by rw [IntKind.wrap_i64]; omega
          have hnge : ¬ (4096 : Int) ≤ L4.first - L4.base := by omega
          have hdd : d = D := by omega
          have HDd := hide hdd
          have HSe : Hid (∀ q, Step M w (wr.drewN q) L (Lay.chop (Lay.after L k b j (L.base + (i' : Nat))) d)) := fun q => by
            rw [← HL4.out]
            exact HSd'.out.trans (Step.grew HSd'.out.pic (below_drewN (Below.refl _ _) q) (Nat.le_trans hM HSd'.out.bel.size))
          clear hL4 eg eb ef ff HSd el hfd hd hne4 hdd f0 ff0 ff1
          go_upto_region 11 with fail
          go_quiet (fail)
          go_wp2_with fail
          have hend : Dropped L k b j i (Lay.chop (Lay.after L k b j (L.base + (i' : Nat))) d) := by
            obtain ⟨a1, a2, a3, a4⟩ := HA.out
            have q1 := HI.out.2
            refine .inr ⟨hone, L.base + (i' : Nat), d, ?_, rfl, ?_⟩
            · rw [if_pos (by omega)]
              exact ⟨i', x', a1, rfl, a2, a3, a4⟩
            · have := HDD.out
              have := HDd.out
              omega
          first
          | (go_end0; exact ⟨rfl, _, hend, HSe.out _⟩)
          | exact bodyPost_ret (v := .tuple #[]) (by simp [results, Yba.results4, go_sem]) rfl ⟨rfl, _, hend, HSe.out _⟩
    · have e1 : (n == L.first) = false := by simpa using hfirst
      go_upto_region 11 with fail
      have HS6 : Hid (Step M w W4 L (Lay.after L k b j (L.first))) := S3
      clear S3 d0 d1 d2 df2
      obtain ⟨D, hD⟩ : ∃ D : Nat, D = (L.first - L.base).toNat / 4096 := ⟨_, rfl⟩
      have hlf := HS.out.lf (fun e => by rw [e] at hkl; simp at hkl)
      have hDl : D < L.bs.length := by have := HI.out.1; have := HI.out.2; omega
      have HFD : Hid (L.base + (D : Int) * 4096 ≤ L.first ∧ L.first < L.base + (D : Int) * 4096 + 4096) := by show _ ∧ _; omega
      have HDD := hide hD
      clear hD
      go_loopg [69] D (fun gq s69 wr => ∃ d : Nat, gq = D - d ∧ d ≤ D ∧ Hid (Step M w wr L (Lay.chop (Lay.after L k b j (L.first)) d)))
      case atStart => exact ⟨0, rfl, Nat.zero_le _, (chop_zero (Lay.after L k b j (L.first))).symm ▸ HS6⟩
      case round =>
        clear HS6
        obtain ⟨d, hgq, hd, HSd⟩ := hrel
        obtain ⟨L4, hL4⟩ : ∃ L4, L4 = Lay.chop (Lay.after L k b j (L.first)) d := ⟨_, rfl⟩
        have HSd' : Hid (Step M w wr L L4) := by rw [hL4]; exact HSd.out
        have eg : L4.gb = L.gb := by rw [hL4]; rfl
        have el : L4.bs.length = L.bs.length - d := by rw [hL4]; simp [Lay.chop, Lay.after, Lay.put]
        have eb : L4.base = L.base + (d : Int) * 4096 := by rw [hL4]; rfl
        have ef : L4.first = L.first := by rw [hL4]; rfl
        have hne4 : L4.bs ≠ [] := fun e => by rw [e] at el; simp at el; omega
        obtain ⟨f0, f1, f2, _, _, _, ff⟩ := HSd'.out.pic.fields
        rw [Pic.hdr_some hne4] at f0
        rw [eg] at f0 f1 f2 ff
        have ff0 := ff 0
        have ff1 := ff 1
        have HL4 := hide hL4
        have HG := hide eg
        have HEB := hide eb
        have HEF := hide ef
        have hgl : L.gb < wr.heap.size := by have := HSd'.out.pic.lt; omega
        have hroom4 := HSd'.out.pic.room
        have hfew4 := HSd'.out.pic.few
        have hfd := HFD.out
        have hb4 : -100000000 ≤ L4.base ∧ L4.base ≤ 100000000 := by have := HS.out.b1; have := HS.out.b2; have := HH.out.few; omega
        obtain ⟨hb41, hb42⟩ := hb4
        by_cases hdD : d < D
        · have h2 : 2 ≤ L4.bs.length := by omega
          have hge : (4096 : Int) ≤ L4.first - L4.base := by omega
          have hub : L4.first - L4.base ≤ 100000000 := by have := HH.out.few; omega
          have hsw : IntKind.i64.wrap (L4.first - L4.base) = L4.first - L4.base := by rw [IntKind.wrap_i64]; omega
          obtain ⟨b0, hb0⟩ : ∃ b0, L4.bs[0]? = some b0 := ⟨_, List.getElem?_eq_getElem (by omega)⟩
          have k1 := (HSd'.out.pic.blk hb0).1
          have k2 := (HSd'.out.pic.blk hb0).2.1
          have k3 := (HSd'.out.pic.blk hb0).2.2.1
          have k4 := (HSd'.out.pic.blk hb0).2.2.2
          simp only [Nat.zero_mul, Nat.add_zero] at k1 k2
          have k40 := k4 L4.ko
          have k41 := k4 (L4.ko + 1)
          have nk := HSd'.out.pic.ne_k hne4
          rw [eg] at nk
          have HSC : Hid (∀ W, Step M w W L L4 → Step M w ((((W.setCell ⟨L4.kb, L4.ko, none⟩ (.slice none 0 0)).setCell ⟨L4.kb, L4.ko + 1, none⟩ (.int .i64 0)).setCell ⟨L.gb, 0, none⟩ (.slice (some ⟨L4.kb, L4.ko + 2, none⟩) (L4.bs.length - 1) (L4.kc - 1))).setCell ⟨L.gb, 1, none⟩ (.int .i64 (L4.base + 4096))) L (L4.chop 1)) := fun W hW => by
            have := hW.trans (step_chop hW.pic h2)
            rw [eg] at this
            exact this
          have hkc : 1 < L4.kc := by omega
          have hkc' : ¬ L4.kc = 1 := by omega
          have HSd2 := hide (HSd'.out.pic)
          clear hL4 eg eb ef ff k4 hb0 HSd el hfd hd hne4
          generalize hnb : L4.bs.length = nb at *
          have HNB := hide hnb
          clear hnb
          go_upto_region 11 with fail
          go_quiet (fail)
          have HSq : Hid (Step M w (wr.drewN nq) L L4) := HSd'.out.trans (Step.grew HSd2.out (below_drewN (Below.refl _ _) nq) (Nat.le_trans hM HSd'.out.bel.size))
          have f0q : (wr.drewN nq).cell? ⟨L.gb, 0, none⟩ = some (.slice (some ⟨L4.kb, L4.ko, none⟩) nb L4.kc) := f0
          have f1q : (wr.drewN nq).cell? ⟨L.gb, 1, none⟩ = some (.int .i64 L4.base) := f1
          have k1q : (wr.drewN nq).cell? ⟨L4.kb, L4.ko, none⟩ = some (.slice (some ⟨b0.lb, 0, none⟩) b0.ls.length b0.cap) := k1
          have k2q : (wr.drewN nq).cell? ⟨L4.kb, L4.ko + 1, none⟩ = some (.int .i64 (heldOf b0.ls : Nat)) := k2
          have k40q : (wr.drewN nq).frozen? ⟨L4.kb, L4.ko, none⟩ = false := k40
          have k41q : (wr.drewN nq).frozen? ⟨L4.kb, L4.ko + 1, none⟩ = false := k41
          have ff0q : (wr.drewN nq).frozen? ⟨L.gb, 0, none⟩ = false := ff0
          have ff1q : (wr.drewN nq).frozen? ⟨L.gb, 1, none⟩ = false := ff1
          have hglq : L.gb < (wr.drewN nq).heap.size := hgl
          clear f0 f1 f2 k1 k2 k40 k41 ff0 ff1 hgl HSd' HSd2 k3
          generalize wr.drewN nq = Wq at *
          go_upto_region 13 with fail
          have S13 := hide (HSC.out Wq HSq.out)
          have f0r : ((Wq.setCell ⟨L4.kb, L4.ko, none⟩ (.slice none 0 0)).setCell ⟨L4.kb, L4.ko + 1, none⟩ (.int .i64 0)).cell? ⟨L.gb, 0, none⟩ = some (.slice (some ⟨L4.kb, L4.ko, none⟩) nb L4.kc) := (World.cell?_of_block (w := Wq) ((Below.heap_setCell _ _ _ _ nk).trans (Below.heap_setCell _ _ _ _ nk))).trans f0q
          have f1r : ((Wq.setCell ⟨L4.kb, L4.ko, none⟩ (.slice none 0 0)).setCell ⟨L4.kb, L4.ko + 1, none⟩ (.int .i64 0)).cell? ⟨L.gb, 1, none⟩ = some (.int .i64 L4.base) := (World.cell?_of_block (w := Wq) ((Below.heap_setCell _ _ _ _ nk).trans (Below.heap_setCell _ _ _ _ nk))).trans f1q
          have ff0r : ((Wq.setCell ⟨L4.kb, L4.ko, none⟩ (.slice none 0 0)).setCell ⟨L4.kb, L4.ko + 1, none⟩ (.int .i64 0)).frozen? ⟨L.gb, 0, none⟩ = false := by rw [World.frozen?_setCell, World.frozen?_setCell]; exact ff0q
          have ff1r : ((Wq.setCell ⟨L4.kb, L4.ko, none⟩ (.slice none 0 0)).setCell ⟨L4.kb, L4.ko + 1, none⟩ (.int .i64 0)).frozen? ⟨L.gb, 1, none⟩ = false := by rw [World.frozen?_setCell, World.frozen?_setCell]; exact ff1q
          clear f0q f1q k1q k2q k40q k41q ff0q ff1q HSq HSC
          generalize (Wq.setCell ⟨L4.kb, L4.ko, none⟩ (.slice none 0 0)).setCell ⟨L4.kb, L4.ko + 1, none⟩ (.int .i64 0) = Wr at *
          go_region
          have S14 : Hid (Step M w ((Wr.setCell ⟨L.gb, 0, none⟩ (.slice (some ⟨L4.kb, L4.ko + 2, none⟩) (nb - 1) (L4.kc - 1))).setCell ⟨L.gb, 1, none⟩ (.int .i64 (L4.base + 4096))).drew L (Lay.chop (Lay.after L k b j (L.first)) (d + 1))) := by
            have s1 := S13.out
            rw [HL4.out, chop_chop, ← HL4.out] at s1
            exact s1.trans (Step.grew s1.pic (Below.refl _ _).drew (Nat.le_trans hM s1.bel.size))
          generalize ((Wr.setCell ⟨L.gb, 0, none⟩ (.slice (some ⟨L4.kb, L4.ko + 2, none⟩) (nb - 1) (L4.kc - 1))).setCell ⟨L.gb, 1, none⟩ (.int .i64 (L4.base + 4096))).drew = Ws at *
          clear f0r f1r ff0r ff1r S13
          go_wp2_with fail
          go_roundg (D - (d + 1))
          case measure => omega
          case rel => exact ⟨d + 1, rfl, by omega, S14⟩
        · have hlt4 : L4.first - L4.base < 4096 := by omega
          have hlb4 : 0 ≤ L4.first - L4.base := by omega
          have hsw : IntKind.i64.wrap (L4.first - L4.base) = L4.first - L4.base := by rw [IntKind.wrap_i64]; omega
          have hnge : ¬ (4096 : Int) ≤ L4.first - L4.base := by omega
          have hdd : d = D := by omega
          have HDd := hide hdd
          have HSe : Hid (∀ q, Step M w (wr.drewN q) L (Lay.chop (Lay.after L k b j (L.first)) d)) := fun q => by
            rw [← HL4.out]
            exact HSd'.out.trans (Step.grew HSd'.out.pic (below_drewN (Below.refl _ _) q) (Nat.le_trans hM HSd'.out.bel.size))
          clear hL4 eg eb ef ff HSd el hfd hd hne4 hdd f0 ff0 ff1
          go_upto_region 11 with fail
          go_quiet (fail)
          go_wp2_with fail
          have hend : Dropped L k b j i (Lay.chop (Lay.after L k b j (L.first)) d) := by
            have q1 := HI.out.2
            refine .inr ⟨hone, L.first, d, ?_, rfl, ?_⟩
            · rw [if_neg (fun e => hfirst (by omega))]
            · have := HDD.out
              have := HDd.out
              omega
          first
          | (go_end0; exact ⟨rfl, _, hend, HSe.out _⟩)
          | exact bodyPost_ret (v := .tuple #[]) (by simp [results, Yba.results4, go_sem]) rfl ⟨rfl, _, hend, HSe.out _⟩
end Go.Proofs.Ybulkdcko
