/-
  THE PICTURE KEPT: the slice of blocks set anew.
-/
import Derived.Test.YbulkdckoGrowB
import Derived.ArgAppend
namespace Go.Proofs.Ybulkdcko
open Go.RowKit

/-- the cells of blocks -/
def bcells (bs : List Blk) : List Value := bs.flatMap (fun b => [.slice (some ⟨b.lb, 0, none⟩) b.ls.length b.cap, .int .i64 (heldOf b.ls : Nat)])
theorem bcells_length : ∀ bs : List Blk, (bcells bs).length = bs.length * 2
  | [] => rfl
  | b :: bs => by
    have := bcells_length bs
    unfold bcells at *
    simp only [List.flatMap_cons, List.length_append, List.length_cons, List.length_nil, this]
    omega
theorem bcells_append (a b : List Blk) : bcells (a ++ b) = bcells a ++ bcells b := by simp [bcells]
theorem bcells_at : ∀ (bs : List Blk) (i : Nat) (b : Blk), bs[i]? = some b → (bcells bs)[i * 2]? = some (.slice (some ⟨b.lb, 0, none⟩) b.ls.length b.cap) ∧ (bcells bs)[i * 2 + 1]? = some (.int .i64 (heldOf b.ls : Nat))
  | [], _, _, h => by simp at h
  | c :: bs, 0, b, h => by
    simp only [List.getElem?_cons_zero, Option.some.injEq] at h
    subst h
    exact ⟨rfl, rfl⟩
  | c :: bs, i + 1, b, h => by
    simp only [List.getElem?_cons_succ] at h
    have e : bcells (c :: bs) = .slice (some ⟨c.lb, 0, none⟩) c.ls.length c.cap :: .int .i64 (heldOf c.ls : Nat) :: bcells bs := rfl
    rw [e, show (i + 1) * 2 = i * 2 + 1 + 1 by omega]
    simp only [List.getElem?_cons_succ]
    exact bcells_at bs i b h
theorem bcells_get (bs : List Blk) (j : Nat) (u : Value) (h : (bcells bs)[j]? = some u) : ∃ b, bs[j / 2]? = some b ∧ (j % 2 = 0 ∧ u = .slice (some ⟨b.lb, 0, none⟩) b.ls.length b.cap ∨ j % 2 = 1 ∧ u = .int .i64 (heldOf b.ls : Nat)) := by
  have hj := (List.getElem?_eq_some_iff.1 h).1
  rw [bcells_length] at hj
  have hjl : j / 2 < bs.length := by omega
  refine ⟨bs[j / 2], List.getElem?_eq_getElem hjl, ?_⟩
  obtain ⟨q1, q2⟩ := bcells_at bs (j / 2) _ (List.getElem?_eq_getElem hjl)
  rcases Nat.mod_two_eq_zero_or_one j with e | e
  · rw [show j / 2 * 2 = j by omega, h] at q1
    exact .inl ⟨e, Option.some.inj q1⟩
  · rw [show j / 2 * 2 + 1 = j by omega, h] at q2
    exact .inr ⟨e, Option.some.inj q2⟩
theorem bcells_one (bs : List Blk) : ∀ u ∈ bcells bs, u.oneCell' = true := fun u hu => by
  obtain ⟨j, hj⟩ := List.mem_iff_getElem?.1 hu
  obtain ⟨b, _, ⟨_, rfl⟩ | ⟨_, rfl⟩⟩ := bcells_get bs j u hj <;> rfl
theorem Pic.cells {w : World} {M : Nat} {L : Lay} (h : Pic w M L) (j : Nat) (u : Value) (hu : (bcells L.bs)[j]? = some u) : w.cell? ⟨L.kb, L.ko + j, none⟩ = some u := by
  obtain ⟨b, hb, q⟩ := bcells_get L.bs j u hu
  obtain ⟨g1, g2, _⟩ := h.blk hb
  rcases q with ⟨e, rfl⟩ | ⟨e, rfl⟩
  · rw [show L.ko + j = L.ko + j / 2 * 2 by omega]; exact g1
  · rw [show L.ko + j = L.ko + j / 2 * 2 + 1 by omega]; exact g2
theorem cell_of_cells {w : World} {b : Nat} {cs : Array Value} {t : TypeId} {fr : Nat × Nat} (h : w.heap[b]? = some (.cells cs t fr)) (j : Nat) : w.cell? ⟨b, j, none⟩ = cs[j]? := by simp [World.cell?, h]

/-- a block's lines in memory -/
def LinAt (W : World) (b : Blk) : Prop := b.cap ≤ maxLen ∧ b.ls.length ≤ b.cap ∧ ∃ cur, W.heap[b.lb]? = some (.cells cur 2 (0, 0)) ∧ cur.size = b.cap ∧ ∀ (j : Nat) (x : Int), b.ls[j]? = some x → cur[j]? = some (.int .i64 x)

/-- the slice of blocks set anew: the old blocks and new ones -/
theorem step_anew {w W : World} {M : Nat} {L : Lay} (h : Pic w M L) (hM : M ≤ w.heap.size) {kb ko kc : Nat} {bs news : List Blk} {base : Int} (hne : bs ≠ [])
    (hgrp : W.heap[L.gb]? = some (.cells #[.slice (some ⟨kb, ko, none⟩) bs.length kc, .int .i64 base, .int .i64 L.first, .int .i64 L.count, .int .i64 L.high, .int .i64 L.last] 27 (0, 0)))
    (hkb : kb = L.kb ∧ L.bs ≠ [] ∨ w.heap.size ≤ kb) (hrow : ∃ cur, W.heap[kb]? = some (.cells cur 41 (0, 0)) ∧ cur.size = ko + kc * 2) (hcells : ∀ j u, (bcells bs)[j]? = some u → W.cell? ⟨kb, ko + j, none⟩ = some u)
    (hroom : bs.length ≤ kc) (hsmall : kc ≤ maxLen) (hfew : bs.length ≤ 1000) (hmem : ∀ b ∈ bs, b ∈ L.bs ∨ b ∈ news) (hnew : ∀ b ∈ news, w.heap.size ≤ b.lb ∧ LinAt W b) (hnd : (bs.map (·.lb)).Nodup)
    (hbel : Below M w W) (far : ∀ x, x < w.heap.size → x ≠ L.gb → (L.bs ≠ [] → x ≠ L.kb) → W.heap[x]? = w.heap[x]?) :
    Step M w W L { L with kb := kb, ko := ko, kc := kc, bs := bs, base := base } := by
  refine ⟨⟨?_, fun _ => ?_, hroom, hsmall, hfew, fun b hb => ?_, hnd, h.lo, fun _ => ?_, fun b hb => ?_⟩, hbel, fun x hx hn => ?_, fun x hx => ?_⟩
  · show W.heap[L.gb]? = _
    rw [hgrp, Pic.hdr_some (L := { L with kb := kb, ko := ko, kc := kc, bs := bs, base := base }) hne]
  · obtain ⟨cur, c1, c2⟩ := hrow
    refine ⟨cur, c1, c2, fun i b hb => ?_⟩
    obtain ⟨q1, q2⟩ := bcells_at bs i b hb
    exact ⟨by rw [← cell_of_cells c1]; exact hcells _ _ q1, by rw [← cell_of_cells c1, Nat.add_assoc]; exact hcells _ _ q2⟩
  · rcases hmem b hb with q | q
    · obtain ⟨p1, p2, cur, p3, p4⟩ := h.lin b q
      refine ⟨p1, p2, cur, ?_, p4⟩
      rw [far b.lb (Array.getElem?_eq_some_iff.1 p3).1 (h.ne_l q).symm (fun _ => (h.ne_kl q).symm)]
      exact p3
    · exact (hnew b q).2
  · rcases hkb with ⟨rfl, q⟩ | q
    · exact h.lok q
    · exact Nat.le_trans hM q
  · rcases hmem b hb with q | q
    · exact h.lol b q
    · exact Nat.le_trans hM (hnew b q).1
  · exact far x hx (fun e => hn (.inl e)) (fun q e => hn (.inr (.inl ⟨q, e⟩)))
  · rcases hx with q | ⟨_, q⟩ | ⟨b, hb, q⟩
    · exact .inl (.inl q)
    · have q' : x = kb := q
      rcases hkb with ⟨e, r⟩ | r
      · exact .inl (.inr (.inl ⟨r, by rw [q', e]⟩))
      · exact .inr (by rw [q']; exact r)
    · rcases hmem b hb with r | r
      · exact .inl (.inr (.inr ⟨b, r, q⟩))
      · exact .inr (by rw [q]; exact (hnew b r).1)

theorem setCells_far {b : Nat} : ∀ (vs : List Value) (o : Nat) (w : World) (x : Nat), x ≠ b → (w.setCells b o vs).heap[x]? = w.heap[x]?
  | [], _, _, _, _ => rfl
  | _ :: vs, o, _, x, hx => (setCells_far vs (o + 1) _ x hx).trans (Below.heap_setCell _ _ _ _ hx)
theorem setCells_size {b : Nat} : ∀ (vs : List Value) (o : Nat) (w : World), (w.setCells b o vs).heap.size = w.heap.size
  | [], _, _ => rfl
  | _ :: vs, o, _ => (setCells_size vs (o + 1) _).trans size_set
theorem below_setCells {B b : Nat} (hb : B ≤ b) : ∀ (vs : List Value) (o : Nat) (w0 w : World), Below B w0 w → Below B w0 (w.setCells b o vs)
  | [], _, _, _, h => h
  | v :: vs, o, w0, _, h => below_setCells hb vs (o + 1) w0 _ (h.setCell hb v)
theorem isSome_setCells {b : Nat} (vs : List Value) (o : Nat) (w : World) (h : ∀ j, j < vs.length → (w.cell? ⟨b, o + j, none⟩).isSome = true) (k : Nat) (hk : (w.cell? ⟨b, k, none⟩).isSome = true) : ((w.setCells b o vs).cell? ⟨b, k, none⟩).isSome = true := by
  by_cases hin : o ≤ k ∧ k < o + vs.length
  · have := World.cell?_setCells_in b vs o w h (k - o) (by omega)
    rw [show o + (k - o) = k by omega] at this
    rw [this]; rfl
  · rw [World.cell?_setCells_out b vs o w ⟨b, k, none⟩ (fun _ _ => by show k < o ∨ o + vs.length ≤ k; omega)]
    exact hk
theorem get_setCells {b : Nat} (vs : List Value) (o : Nat) (w : World) (h : ∀ j, j < vs.length → (w.cell? ⟨b, o + j, none⟩).isSome = true) (k : Nat) (u : Value) (hu : vs[k]? = some u) : (w.setCells b o vs).cell? ⟨b, o + k, none⟩ = some u := by
  have hk := (List.getElem?_eq_some_iff.1 hu).1
  rw [World.cell?_setCells_in b vs o w h k hk]
  rw [List.getElem?_eq_getElem hk] at hu
  exact hu

theorem info41 : (Yba.prog.info? 41).map (fun i => (i.zero, i.size, i.bytes)) = some (some (.agg #[.slice none 0 0, .int .i64 0]), 2, 32) := by kernel_rfl
theorem size41 : (Yba.prog.info? 41).map (·.size) = some 2 := by kernel_rfl
end Go.Proofs.Ybulkdcko
