/-
  THE GROUP IN MEMORY, and the walks of end, place, isHeld.
-/
import Derived.Test.YbulkdckoRows
import Derived.WalkKit
import Derived.ProofKit
import Derived.Below
import Derived.WalkSmall
import Derived.Deep.LoopGhost
import Derived.Deep.DeepCutAuto
import Derived.Deep.CutBlock
import Derived.BigQuiet
import Derived.Laws.BitsAllLaws
import Derived.Laws.AppendOwn
import Derived.Laws.OwnMore
import Derived.Laws.CopyOwn
import Derived.Deep.OwnRows
import Derived.Deep.RegionHeld3
namespace Go.Proofs.Ybulkdcko
open Go.RowKit

theorem hide {p : Prop} (h : p) : Hid p := h

/-- a block of a group: where its lines lie, their room, the lines -/
structure Blk where
  lb : Nat
  cap : Nat
  ls : List Int
/-- how many lines are not vacant -/
def heldOf (ls : List Int) : Nat := ls.countP (fun x => decide (x ≠ -1))
/-- a group: where it lies and what it holds -/
structure Lay where
  gb : Nat
  kb : Nat
  ko : Nat
  kc : Nat
  bs : List Blk
  base : Int
  first : Int
  count : Int
  high : Int
  last : Int
/-- the slice of blocks -/
def Lay.hdr (L : Lay) : Value := if L.bs = [] then .slice none 0 0 else .slice (some ⟨L.kb, L.ko, none⟩) L.bs.length L.kc
structure Pic (w : World) (M : Nat) (L : Lay) : Prop where
  grp : w.heap[L.gb]? = some (.cells #[L.hdr, .int .i64 L.base, .int .i64 L.first, .int .i64 L.count, .int .i64 L.high, .int .i64 L.last] 27 (0, 0))
  arr : L.bs ≠ [] → ∃ cur, w.heap[L.kb]? = some (.cells cur 41 (0, 0)) ∧ cur.size = L.ko + L.kc * 2 ∧ ∀ (i : Nat) (b : Blk), L.bs[i]? = some b → cur[L.ko + i * 2]? = some (.slice (some ⟨b.lb, 0, none⟩) b.ls.length b.cap) ∧ cur[L.ko + i * 2 + 1]? = some (.int .i64 (heldOf b.ls : Nat))
  room : L.bs.length ≤ L.kc
  small : L.kc ≤ maxLen
  few : L.bs.length ≤ 1000
  lin : ∀ b ∈ L.bs, b.cap ≤ maxLen ∧ b.ls.length ≤ b.cap ∧ ∃ cur, w.heap[b.lb]? = some (.cells cur 2 (0, 0)) ∧ cur.size = b.cap ∧ ∀ (j : Nat) (x : Int), b.ls[j]? = some x → cur[j]? = some (.int .i64 x)
  nd : (L.bs.map (·.lb)).Nodup
  lo : M ≤ L.gb
  lok : L.bs ≠ [] → M ≤ L.kb
  lol : ∀ b ∈ L.bs, M ≤ b.lb

theorem Pic.lt {w : World} {M : Nat} {L : Lay} (h : Pic w M L) : L.gb < w.heap.size := (Array.getElem?_eq_some_iff.1 h.grp).1
theorem Pic.fields {w : World} {M : Nat} {L : Lay} (h : Pic w M L) : w.cell? ⟨L.gb, 0, none⟩ = some L.hdr ∧ w.cell? ⟨L.gb, 1, none⟩ = some (.int .i64 L.base) ∧ w.cell? ⟨L.gb, 2, none⟩ = some (.int .i64 L.first) ∧ w.cell? ⟨L.gb, 3, none⟩ = some (.int .i64 L.count) ∧ w.cell? ⟨L.gb, 4, none⟩ = some (.int .i64 L.high) ∧ w.cell? ⟨L.gb, 5, none⟩ = some (.int .i64 L.last) ∧ ∀ i, w.frozen? ⟨L.gb, i, none⟩ = false := by
  have := h.grp
  refine ⟨?_, ?_, ?_, ?_, ?_, ?_, fun i => ?_⟩ <;> simp [World.cell?, World.frozen?, this]
theorem Pic.blk {w : World} {M : Nat} {L : Lay} (h : Pic w M L) {i : Nat} {b : Blk} (hi : L.bs[i]? = some b) : w.cell? ⟨L.kb, L.ko + i * 2, none⟩ = some (.slice (some ⟨b.lb, 0, none⟩) b.ls.length b.cap) ∧ w.cell? ⟨L.kb, L.ko + i * 2 + 1, none⟩ = some (.int .i64 (heldOf b.ls : Nat)) ∧ L.kb < w.heap.size ∧ ∀ j, w.frozen? ⟨L.kb, j, none⟩ = false := by
  obtain ⟨cur, h1, h2, h3⟩ := h.arr (fun e => by rw [e] at hi; simp at hi)
  obtain ⟨h4, h5⟩ := h3 i b hi
  exact ⟨by simp [World.cell?, h1, h4], by simp [World.cell?, h1, h5], (Array.getElem?_eq_some_iff.1 h1).1, fun j => by simp [World.frozen?, h1]⟩
theorem Pic.line {w : World} {M : Nat} {L : Lay} (h : Pic w M L) {b : Blk} (hb : b ∈ L.bs) {j : Nat} {x : Int} (hj : b.ls[j]? = some x) : w.cell? ⟨b.lb, j, none⟩ = some (.int .i64 x) ∧ b.lb < w.heap.size ∧ ∀ i, w.frozen? ⟨b.lb, i, none⟩ = false := by
  obtain ⟨_, _, cur, h1, h2, h3⟩ := h.lin b hb
  exact ⟨by simp [World.cell?, h1, h3 j x hj], (Array.getElem?_eq_some_iff.1 h1).1, fun i => by simp [World.frozen?, h1]⟩
theorem Pic.hdr_some {L : Lay} (h : L.bs ≠ []) : L.hdr = .slice (some ⟨L.kb, L.ko, none⟩) L.bs.length L.kc := if_neg h
theorem Pic.hdr_none {L : Lay} (h : L.bs = []) : L.hdr = .slice none 0 0 := if_pos h
theorem Pic.up {w W : World} {M : Nat} {L : Lay} (h : Pic w M L) (b : Below w.heap.size w W) : Pic W M L := by
  refine ⟨(b.block _ h.lt).trans h.grp, fun hne => ?_, h.room, h.small, h.few, fun x hx => ?_, h.nd, h.lo, h.lok, h.lol⟩
  · obtain ⟨cur, h1, h2⟩ := h.arr hne
    exact ⟨cur, (b.block _ (Array.getElem?_eq_some_iff.1 h1).1).trans h1, h2⟩
  · obtain ⟨h1, h2, cur, h3, h4⟩ := h.lin x hx
    exact ⟨h1, h2, cur, (b.block _ (Array.getElem?_eq_some_iff.1 h3).1).trans h3, h4⟩
theorem Pic.drewN {w : World} {M : Nat} {L : Lay} (h : Pic w M L) (n : Nat) : Pic (w.drewN n) M L := h.up (below_drewN (Below.refl _ _) n)

/-- the number just above the highest kept -/
def Lay.endN (L : Lay) : Int := match L.bs.getLast? with
  | none => L.first
  | some b => L.base + ((L.bs.length : Int) - 1) * 4096 + (b.ls.length : Int)

theorem held_any (x : Int) (w : World) : Calls Yba.prog 13 #[.int .i64 x] w fun e w' => e = .returned (.bool (decide (x ≠ -1))) ∧ w' = w := by
  by_cases h : x = -1
  · subst h
    go_enter Yba.func13, Yba.ntmps13
    go_wp2
    go_ret
    exact ⟨rfl, rfl⟩
  · have h2 : (x == -1) = false := by simpa using h
    go_enter Yba.func13, Yba.ntmps13
    go_wp2
    go_ret
    exact ⟨by simp [h], rfl⟩

set_option maxHeartbeats 3200000 in
set_option maxRecDepth 100000 in
theorem end_any {w : World} {M : Nat} {L : Lay} (h : Pic w M L) (hb1 : -1000000 ≤ L.base) (hb2 : L.base ≤ 1000000) (hl : ∀ b ∈ L.bs, b.ls.length ≤ 4096) : Calls Yba.prog 11 #[.pointer (some ⟨L.gb, 0, none⟩)] w fun e w' => e = .returned (.int .i64 L.endN) ∧ ∃ n, w' = w.drewN n := by
  obtain ⟨f0, f1, f2, f3, f4, f5, ff⟩ := h.fields
  have hgl := h.lt
  cases hlast : L.bs.getLast? with
  | none =>
    have he : L.bs = [] := List.getLast?_eq_none_iff.1 hlast
    rw [Pic.hdr_none he] at f0
    have hE : Hid (L.endN = L.first) := by show L.endN = L.first; unfold Lay.endN; rw [hlast]
    clear h hlast he hl
    go_enter Yba.func11, Yba.ntmps11
    go_wp2
    go_ret
    exact ⟨congrArg (fun z => Ending.returned (Value.int .i64 z)) hE.out.symm, 0, rfl⟩
  | some b =>
    have hne : L.bs ≠ [] := fun e => by rw [e] at hlast; simp at hlast
    have hn : 0 < L.bs.length := List.length_pos_iff.2 hne
    have hib : L.bs[L.bs.length - 1]? = some b := by rw [← List.getLast?_eq_getElem?]; exact hlast
    obtain ⟨g1, g2, g3, g4⟩ := h.blk hib
    rw [Pic.hdr_some hne] at f0
    have hE : Hid (L.endN = L.base + ((L.bs.length : Int) - 1) * 4096 + (b.ls.length : Int)) := by show L.endN = _; unfold Lay.endN; rw [hlast]
    have hfew := h.few
    have hroom := h.room
    have hbl : b.ls.length ≤ 4096 := hl b (List.mem_of_getElem? hib)
    clear h hlast hne hib hl
    generalize L.bs.length = nb at *
    generalize b.ls.length = nl at *
    obtain ⟨m, rfl⟩ : ∃ m, nb = m + 1 := ⟨nb - 1, by omega⟩
    simp only [Nat.add_sub_cancel] at g1 g2
    have q1 : (((m + 1 : Nat) : Int) == 0) = false := by simpa using (show ((m : Int) + 1) ≠ 0 by omega)
    have q2 : ¬ (((m + 1 : Nat) : Int) = 0) := by omega
    have hw : IntKind.i64.wrap (m : Int) = (m : Int) := by rw [IntKind.wrap_i64]; omega
    have hm1 : (m : Int) < (m : Int) + 1 := by omega
    go_enter Yba.func11, Yba.ntmps11
    go_upto_region 3 with fail
    go_quiet (fail)
    go_wp2_with fail
    go_ret
    exact ⟨congrArg (fun z => Ending.returned (Value.int .i64 z)) (show L.base + (m : Int) * 4096 + (nl : Int) = L.endN by rw [hE.out]; omega), nq, rfl⟩
set_option maxHeartbeats 3200000 in
set_option maxRecDepth 100000 in
theorem place_any {w : World} {M : Nat} {L : Lay} (h : Pic w M L) (i : Nat) (hi : i < 10000000) (hk : i / 4096 < L.bs.length) :
    Calls Yba.prog 7 #[.pointer (some ⟨L.gb, 0, none⟩), .int .i64 (L.base + (i : Nat))] w fun e w' => e = .returned (.tuple #[.pointer (some ⟨L.kb, L.ko + i / 4096 * 2, none⟩), .int .i64 ((i % 4096 : Nat) : Int)]) ∧ ∃ n, w' = w.drewN n := by
  obtain ⟨f0, f1, f2, f3, f4, f5, ff⟩ := h.fields
  have hgl := h.lt
  have hne : L.bs ≠ [] := fun e => by rw [e] at hk; simp at hk
  rw [Pic.hdr_some hne] at f0
  have hroom := h.room
  have hfew := h.few
  clear h hne
  generalize L.bs.length = nb at *
  have e1 : L.base + (i : Int) - L.base = (i : Int) := by omega
  go_enter Yba.func7, Yba.ntmps7
  go_wp2_with fail
  exact bodyPost_ret (v := .tuple #[.pointer (some ⟨L.kb, L.ko + i / 4096 * 2, none⟩), .int .i64 ((i : Int) % 4096)]) (by simp [results, Yba.results7, go_sem]) rfl ⟨rfl, 0, rfl⟩

/-- what line answers -/
def lineP (L : Lay) (n : Int) : Int × Bool :=
  if n < L.first ∨ L.endN ≤ n then (0, false)
  else match L.bs[(n - L.base).toNat / 4096]? with
    | some b => (b.ls.getD ((n - L.base).toNat % 4096) 0, decide (b.ls.getD ((n - L.base).toNat % 4096) 0 ≠ -1))
    | none => (0, false)
/-- the shape of a group that holds something: what the walks ask -/
structure Shaped (L : Lay) : Prop where
  b1 : -1000000 ≤ L.base
  b2 : L.base ≤ 1000000
  le : ∀ b ∈ L.bs, b.ls.length ≤ 4096
  full : ∀ (i : Nat) (b : Blk), L.bs[i]? = some b → i + 1 < L.bs.length → b.ls.length = 4096
  lf : L.bs ≠ [] → L.base ≤ L.first
/-- the block and the line of a number that is kept -/
theorem kept_at {L : Lay} (hs : Shaped L) {n : Int} (h1 : L.first ≤ n) (h2 : n < L.endN) : ∃ (i : Nat) (b : Blk), n = L.base + (i : Nat) ∧ L.bs[i / 4096]? = some b ∧ i % 4096 < b.ls.length ∧ i / 4096 < L.bs.length := by
  unfold Lay.endN at h2
  cases hl : L.bs.getLast? with
  | none => rw [hl] at h2; simp only at h2; omega
  | some b =>
    rw [hl] at h2
    simp only at h2
    have hne : L.bs ≠ [] := fun e => by rw [e] at hl; simp at hl
    have hn : 0 < L.bs.length := List.length_pos_iff.2 hne
    have hf := hs.lf hne
    have hib : L.bs[L.bs.length - 1]? = some b := by rw [← List.getLast?_eq_getElem?]; exact hl
    have hbl := hs.le b (List.mem_of_getElem? hib)
    obtain ⟨i, hi⟩ : ∃ i : Nat, n = L.base + (i : Nat) := ⟨(n - L.base).toNat, by omega⟩
    have hlt : i < (L.bs.length - 1) * 4096 + b.ls.length := by omega
    have hk : i / 4096 < L.bs.length := by omega
    refine ⟨i, L.bs[i / 4096], hi, List.getElem?_eq_getElem hk, ?_, hk⟩
    by_cases hlast : i / 4096 + 1 < L.bs.length
    · rw [hs.full (i / 4096) _ (List.getElem?_eq_getElem hk) hlast]
      omega
    · have e : i / 4096 = L.bs.length - 1 := by omega
      rw [List.getElem?_eq_getElem (by omega)] at hib
      have : L.bs[i / 4096] = b := by
        rw [← Option.some.inj hib]
        congr
      rw [this]
      omega

set_option maxHeartbeats 3200000 in
set_option maxRecDepth 100000 in
theorem line_any {w : World} {M : Nat} {L : Lay} (h : Pic w M L) (hs : Shaped L) (n : Int) :
    Calls Yba.prog 6 #[.pointer (some ⟨L.gb, 0, none⟩), .int .i64 n] w fun e w' => e = .returned (.tuple #[.int .i64 (lineP L n).1, .bool (lineP L n).2]) ∧ ∃ k, w' = w.drewN k := by
  obtain ⟨f0, f1, f2, f3, f4, f5, ff⟩ := h.fields
  have hgl := h.lt
  have HE := hide (end_any h hs.b1 hs.b2 hs.le)
  by_cases c1 : n < L.first
  · have hp : lineP L n = (0, false) := if_pos (.inl c1)
    rw [hp]
    clear h hs HE
    go_enter Yba.func6, Yba.ntmps6
    go_wp2_with fail
    exact bodyPost_ret (v := .tuple #[.int .i64 0, .bool false]) (by simp [results, Yba.results6, go_sem]) rfl ⟨rfl, 0, rfl⟩
  · by_cases c2 : L.endN ≤ n
    · have hp : lineP L n = (0, false) := if_pos (.inr c2)
      rw [hp]
      clear h hs
      generalize L.endN = E at *
      go_enter Yba.func6, Yba.ntmps6
      go_wp2_with fail
      refine HE.out.mono ?_
      rintro e w1 ⟨rfl, k, rfl⟩
      go_wp2_with fail
      exact bodyPost_ret (v := .tuple #[.int .i64 0, .bool false]) (by simp [results, Yba.results6, go_sem]) rfl ⟨rfl, _, rfl⟩
    · obtain ⟨i, b, hn, hb, hj, hk⟩ := kept_at (n := n) hs (by omega) (by omega)
      have e0 : (n - L.base).toNat = i := by omega
      obtain ⟨x, hx⟩ : ∃ x, b.ls[i % 4096]? = some x := ⟨_, List.getElem?_eq_getElem hj⟩
      have hp : lineP L n = (x, decide (x ≠ -1)) := by
        unfold lineP
        rw [if_neg (by omega), e0, hb]
        simp [List.getD, hx]
      rw [hp]
      have hm := List.mem_of_getElem? hb
      have hi6 : i < 10000000 := by have := h.few; have := hs.le b hm; omega
      have HP : Hid (∀ k, Calls Yba.prog 7 #[.pointer (some ⟨L.gb, 0, none⟩), .int .i64 n] (w.drewN k) fun e w' => e = .returned (.tuple #[.pointer (some ⟨L.kb, L.ko + i / 4096 * 2, none⟩), .int .i64 ((i % 4096 : Nat) : Int)]) ∧ ∃ n, w' = (w.drewN k).drewN n) := fun k => by
        rw [hn]
        exact place_any (h.drewN k) i hi6 hk
      obtain ⟨g1, g2, g3, g4⟩ := h.blk hb
      obtain ⟨l1, l2, l3⟩ := h.line hm hx
      have hcap := (h.lin b hm).2.1
      clear h hs hb hm hp e0 hx hn
      generalize L.endN = E at *
      generalize b.ls.length = nl at *
      generalize i / 4096 = kk at *
      generalize i % 4096 = jj at *
      go_enter Yba.func6, Yba.ntmps6
      go_wp2_with fail
      refine HE.out.mono ?_
      rintro e w1 ⟨rfl, k, rfl⟩
      go_wp2_with fail
      refine (HP.out k).mono ?_
      rintro e w1 ⟨rfl, k', rfl⟩
      go_upto_region 4 with fail
      go_quiet ((go_at_call 13; exact (held_any _ _).mono (fun _ _ h => ⟨h.1, _, h.2⟩)))
      go_wp2_with fail
      exact bodyPost_ret (v := .tuple #[.int .i64 x, .bool (decide (x ≠ -1))]) (by simp [results, Yba.results6, go_sem]) rfl ⟨rfl, k + k' + nq, by simp [World.drewN_drewN]⟩
end Go.Proofs.Ybulkdcko
