/-
  WHAT THE COPY INDEX IS IN MEMORY: the map's block and the runs' blocks, by the plain functions 'hd' (a hash's first run) and 'nx' (a run's next one).
-/
import Derived.Test.YbulkdceqRows
import Derived.Test.YbulkdceqPlain
import Derived.WalkKit
import Derived.ProofKit
import Derived.Below
import Derived.LaidEqlPtr
import Derived.Maps.OwnSet
namespace Go.Proofs.Ybulkdceq
open Go.RowKit Go.Maps
open Go.ChangeMaps (setBlock)

/-- the address of run o, o a number from RB on -/
def adr (RB : Nat) (o : Option Nat) : Option Addr := o.map fun j => ⟨RB + j, 0, none⟩
theorem adr_none (RB : Nat) : adr RB none = none := rfl
theorem adr_some (RB j : Nat) : adr RB (some j) = some ⟨RB + j, 0, none⟩ := rfl
theorem adr_isNone (RB : Nat) (o : Option Nat) : (adr RB o).isNone = o.isNone := by cases o <;> rfl

/-- what a pointer to a run reads as, for the proof alone -/
def dat : Option Nat → DataW Unit
  | none => .nil
  | some j => .lit (.int .i64 j)
def ptrElem (RB : Nat) : Value → Option (DataW Unit × List MemPlace)
  | .pointer none => some (.nil, [])
  | .pointer (some a) => if RB ≤ a.block ∧ a.off = 0 ∧ a.spot = none then some (.lit (.int .i64 ((a.block - RB : Nat) : Int)), []) else none
  | _ => none
theorem ptrElem_mk (RB : Nat) (o : Option Nat) : ptrElem RB (.pointer (adr RB o)) = some (dat o, []) := by
  cases o <;> simp [ptrElem, adr, dat]
theorem ptrElem_inv {RB : Nat} {v : Value} {o : Option Nat} {ps : List MemPlace} (h : ptrElem RB v = some (dat o, ps)) : v = .pointer (adr RB o) := by
  unfold ptrElem at h
  split at h
  · cases o
    · rfl
    · simp [dat] at h
  · rename_i a
    split at h
    · rename_i hc
      obtain ⟨h1, h2, h3⟩ := hc
      cases o with
      | none => simp [dat] at h
      | some j =>
        simp [dat] at h
        obtain ⟨b, off, spot⟩ := a
        simp only at h1 h2 h3 h
        subst h2 h3
        rw [adr_some, show b = RB + j by omega]
    · cases h
  · cases h

theorem law : Keyed Yba.prog 27 := int_keyed Yba.underlying27
theorem zeroP (w : World) : (zeroValue 26).run Yba.prog w = .ok (.pointer none) w := by kernel_rfl
theorem wfKey {h : Nat} (hh : h < 4) : (Lit.int .u64 (h : Int)).wf = true := by
  have : h = 0 ∨ h = 1 ∨ h = 2 ∨ h = 3 := by omega
  rcases this with rfl | rfl | rfl | rfl <;> decide
theorem hkey {h : Nat} (hh : h < 4) : keyOf Yba.prog 27 (.int .u64 (h : Int)) = some (.int .u64 (h : Int)) := keyOf_int_mk Yba.underlying27 (wfKey hh)
theorem key_ne {h h' : Nat} (hne : h' ≠ h) : Lit.int .u64 (h' : Int) ≠ .int .u64 (h : Int) := by
  intro e; simp at e; omega

/-- BLOCK B IS THE INDEX: under the hash h the run hd h, a key just where there is one; no other keys. -/
def MapIs (w : World) (B RB k : Nat) (hd : Nat → Option Nat) : Prop :=
  ∃ D : DataW Unit, w.ownsMap Yba.prog 27 (ptrElem RB) B k D ∧ (∀ h : Nat, h < 4 → Maps.has D (.int .u64 (h : Int)) = (hd h).isSome ∧ D.atKey (.int .u64 (h : Int)) .nil = dat (hd h)) ∧ Maps.size D = cnt hd

theorem mapIs_made (w : World) (RB : Nat) : MapIs (w.alloc (.map #[] 0)) w.heap.size RB 0 (fun _ => none) :=
  ⟨.map [], World.ownsMap_made _ _ _ _, fun _ _ => ⟨rfl, rfl⟩, rfl⟩

theorem MapIs.lookup {w : World} {B RB k : Nat} {hd : Nat → Option Nat} (m : MapIs w B RB k hd) {h : Nat} (hh : h < 4) :
    (Instr.lookup 24 (.map (some B)) (.int .u64 (h : Int)) false).run Yba.prog w = .ok (.pointer (adr RB (hd h))) w := by
  obtain ⟨D, ho, hv, _⟩ := m
  obtain ⟨v, ps, hrun, hR⟩ := ho.lookup law Yba.underlying24 (zeroP w) (zd := .nil) (zp := []) rfl (hkey hh)
  rw [(hv h hh).2] at hR
  rw [hrun, ptrElem_inv hR]
theorem MapIs.look_ok {w : World} {B RB k : Nat} {hd : Nat → Option Nat} (m : MapIs w B RB k hd) {h : Nat} (hh : h < 4) :
    (Instr.lookup 24 (.map (some B)) (.int .u64 (h : Int)) true).run Yba.prog w = .ok (.tuple #[.pointer (adr RB (hd h)), .bool (hd h).isSome]) w := by
  obtain ⟨D, ho, hv, _⟩ := m
  obtain ⟨v, ps, hrun, hR⟩ := ho.look_ok law Yba.underlying24 (zeroP w) (zd := .nil) (zp := []) rfl (hkey hh)
  rw [(hv h hh).2] at hR
  rw [hrun, ptrElem_inv hR, (hv h hh).1]
theorem MapIs.len {w : World} {B RB k : Nat} {hd : Nat → Option Nat} (m : MapIs w B RB k hd) (ty : TypeId) :
    (Builtin.len_ #[24] ty #[.map (some B)]).run Yba.prog w = .ok (.int .i64 (cnt hd : Nat)) w := by
  obtain ⟨D, ho, _, hs⟩ := m
  rw [ho.len Yba.underlying24 ty, hs]
theorem MapIs.store {w : World} {B RB k : Nat} {hd : Nat → Option Nat} (m : MapIs w B RB k hd) {h : Nat} (hh : h < 4) (hk : k < maxLen) (j : Nat) :
    ∃ w', (Instr.mapUpdate 24 (.map (some B)) (.int .u64 (h : Int)) (.pointer (adr RB (some j)))).run Yba.prog w = .ok () w' ∧ MapIs w' B RB (k + 1) (upd hd h (some j)) ∧ w.mapTurned w' B := by
  obtain ⟨D, ho, hv, hs⟩ := m
  obtain ⟨w', hrun, ho', ht⟩ := ho.store law Yba.underlying24 hk (hkey hh) (ptrElem_mk RB (some j))
  refine ⟨w', hrun, ⟨_, ho', fun h' hh' => ?_, ?_⟩, ht⟩
  · by_cases e : h' = h
    · subst e
      rw [has_put_same ho.isMap (law.key (hkey hh)), atKey_put_same ho.isMap (law.key (hkey hh)), upd_same]
      exact ⟨rfl, rfl⟩
    · rw [has_put_other (key_ne e), atKey_put_other (key_ne e), upd_other _ _ _ e]
      exact hv h' hh'
  · rw [size_put (ho.tidy law), (hv h hh).1, hs, cnt_some hd h hh j]
theorem MapIs.drop {w : World} {B RB k : Nat} {hd : Nat → Option Nat} (m : MapIs w B RB k hd) {h : Nat} (hh : h < 4) (ty : TypeId) :
    ∃ w', (Builtin.delete_ #[24, 27] ty #[.map (some B), .int .u64 (h : Int)]).run Yba.prog w = .ok (.tuple #[]) w' ∧ MapIs w' B RB k (upd hd h none) ∧ w.mapTurned w' B := by
  obtain ⟨D, ho, hv, hs⟩ := m
  obtain ⟨w', hrun, ho', ht⟩ := ho.drop law Yba.underlying24 (hkey hh) ty
  refine ⟨w', hrun, ⟨_, ho', fun h' hh' => ?_, ?_⟩, ht⟩
  · by_cases e : h' = h
    · subst e
      rw [has_del_same, atKey_del_same, upd_same]
      exact ⟨rfl, rfl⟩
    · rw [has_del_other (key_ne e), atKey_del_other (key_ne e), upd_other _ _ _ e]
      exact hv h' hh'
  · have h1 := size_del (k := Lit.int .u64 (h : Int)) (ho.tidy law)
    have h2 := cnt_none hd h hh
    rw [(hv h hh).1, hs] at h1
    omega
theorem MapIs.block {w w' : World} {B RB k : Nat} {hd : Nat → Option Nat} (m : MapIs w B RB k hd) (h : w'.heap[B]? = w.heap[B]?) : MapIs w' B RB k hd := by
  obtain ⟨D, ⟨es, clock, hb, r⟩, s⟩ := m
  exact ⟨D, ⟨es, clock, h.trans hb, r⟩, s⟩
theorem MapIs.lt {w : World} {B RB k : Nat} {hd : Nat → Option Nat} (m : MapIs w B RB k hd) : B < w.heap.size := by
  obtain ⟨D, ho, _⟩ := m
  exact ho.lt
theorem MapIs.isMap {w : World} {B RB k : Nat} {hd : Nat → Option Nat} (m : MapIs w B RB k hd) : ∃ es c, w.heap[B]? = some (.map es c) := by
  obtain ⟨D, ⟨es, clock, hb, r⟩, s⟩ := m
  exact ⟨es, clock, hb⟩

/-- THE INDEX AND ITS RUNS: run j's block is RB + j; its cell 12 is its 'next'. -/
structure St (w : World) (B RB n k : Nat) (hd nx : Nat → Option Nat) : Prop where
  map : MapIs w B RB k hd
  run : ∀ j, j < n → ∃ c : Array Value, w.heap[RB + j]? = some (.cells c 41 (0, 0)) ∧ c[12]? = some (.pointer (adr RB (nx j)))
  apart : B < RB

/-- nothing has turned but the index and its runs -/
structure Kept (B RB n : Nat) (w w' : World) : Prop where
  os : w'.os = w.os
  tape : w'.tape = w.tape
  output : w'.output = w.output
  size : w'.heap.size = w.heap.size
  block : ∀ b, b ≠ B → (b < RB ∨ RB + n ≤ b) → w'.heap[b]? = w.heap[b]?
theorem Kept.refl (B RB n : Nat) (w : World) : Kept B RB n w w := ⟨rfl, rfl, rfl, rfl, fun _ _ _ => rfl⟩
theorem Kept.trans {B RB n : Nat} {a b c : World} (h : Kept B RB n a b) (k : Kept B RB n b c) : Kept B RB n a c :=
  ⟨k.os.trans h.os, k.tape.trans h.tape, k.output.trans h.output, k.size.trans h.size, fun i h1 h2 => (k.block i h1 h2).trans (h.block i h1 h2)⟩
theorem Kept.drew {B RB n : Nat} {a w : World} (h : Kept B RB n a w) : Kept B RB n a w.drew := ⟨h.os, h.tape, h.output, h.size, h.block⟩
theorem Kept.setCell {B RB n : Nat} {a w : World} (h : Kept B RB n a w) {j o : Nat} (hj : j < n) (u : Value) : Kept B RB n a (w.setCell ⟨RB + j, o, none⟩ u) :=
  h.trans ⟨rfl, rfl, rfl, by simp [World.setCell], fun k _ hk => Below.heap_setCell _ _ _ _ (by simp only; omega)⟩
theorem Kept.turned {B RB n : Nat} {a w w' : World} (h : Kept B RB n a w) (ht : w.mapTurned w' B) : Kept B RB n a w' := by
  obtain ⟨es, clock, es', clock', hb, rfl⟩ := ht
  exact h.trans ⟨rfl, rfl, rfl, by simp [setBlock], fun k hk _ => Go.ChangeMaps.heap_setBlock_other hb _ hk⟩
theorem Kept.cell {B RB n : Nat} {w w' : World} (h : Kept B RB n w w') {p : Addr} (h1 : p.block ≠ B) (h2 : p.block < RB ∨ RB + n ≤ p.block) : w'.cell? p = w.cell? p := World.cell?_of_block (w := w) (h.block p.block h1 h2)
theorem Kept.below {B RB n S : Nat} {a w w' : World} (h : Below S a w) (k : Kept B RB n w w') (hB : S ≤ B) (hR : S ≤ RB) : Below S a w' :=
  h.trans ⟨k.os, k.tape, k.output, by rw [k.size]; exact Nat.le_refl _, fun i hi => k.block i (by omega) (by omega)⟩

section
variable {w : World} {B RB n k : Nat} {hd nx : Nat → Option Nat}
theorem St.next (s : St w B RB n k hd nx) {j : Nat} (hj : j < n) : w.cell? ⟨RB + j, 12, none⟩ = some (.pointer (adr RB (nx j))) := by
  obtain ⟨c, h1, h2⟩ := s.run j hj
  simp [World.cell?, h1, h2]
theorem St.free (s : St w B RB n k hd nx) {j o : Nat} (hj : j < n) : w.frozen? ⟨RB + j, o, none⟩ = false := by
  obtain ⟨c, h1, h2⟩ := s.run j hj
  simp [World.frozen?, h1]
theorem St.mapKept (s : St w B RB n k hd nx) {w' : World} {k' : Nat} {hd' : Nat → Option Nat} (m : MapIs w' B RB k' hd') (h : w.mapTurned w' B) : St w' B RB n k' hd' nx := by
  obtain ⟨es, clock, es', clock', hb, rfl⟩ := h
  refine ⟨m, fun j hj => ?_, s.apart⟩
  obtain ⟨c, h1, h2⟩ := s.run j hj
  exact ⟨c, (Go.ChangeMaps.heap_setBlock_other hb _ (by have := s.apart; omega)).trans h1, h2⟩
theorem St.setNext (s : St w B RB n k hd nx) {i : Nat} (hi : i < n) (v : Option Nat) : St (w.setCell ⟨RB + i, 12, none⟩ (.pointer (adr RB v))) B RB n k hd (upd nx i v) := by
  refine ⟨s.map.block (Below.heap_setCell _ _ _ _ (by have := s.apart; simp only; omega)), fun j hj => ?_, s.apart⟩
  obtain ⟨c, h1, h2⟩ := s.run j hj
  by_cases e : j = i
  · subst e
    refine ⟨c.setIfInBounds 12 (.pointer (adr RB v)), ?_, ?_⟩
    · simp [World.setCell, Array.getElem?_modify, h1]
    · have hlt : 12 < c.size := (Array.getElem?_eq_some_iff.1 h2).1
      rw [upd_same]
      simp [hlt]
  · refine ⟨c, ?_, ?_⟩
    · rw [Below.heap_setCell _ _ _ _ (by simp only; omega)]; exact h1
    · rw [upd_other _ _ _ e]; exact h2
theorem St.drew (s : St w B RB n k hd nx) : St w.drew B RB n k hd nx := ⟨s.map.block rfl, s.run, s.apart⟩
theorem St.mono (s : St w B RB n k hd nx) {k' : Nat} (hk : k ≤ k') : St w B RB n k' hd nx := by
  obtain ⟨⟨D, ho, r⟩, s2, s3⟩ := s
  exact ⟨⟨D, ho.mono hk, r⟩, s2, s3⟩
end

/-! ### '==' and '!=' between pointers to runs -/
theorem info41 : ∃ j, Yba.prog.info? 41 = some j ∧ j.size ≠ 0 := by
  have h : (Yba.prog.info? 41).any (fun j => j.size != 0) = true := by kernel_rfl
  cases hx : Yba.prog.info? 41 with
  | none => rw [hx] at h; simp at h
  | some j => rw [hx] at h; exact ⟨j, rfl, by simpa using h⟩
theorem eql_same (a : Addr) (w : World) : (binOp .eql 26 (.pointer (some a)) (.pointer (some a))).run Yba.prog w = .ok (.bool true) w := by
  obtain ⟨j, hj, _⟩ := info41
  exact run_eql_ptr_same w a Yba.underlying26 hj
theorem neq_same (a : Addr) (w : World) : (binOp .neq 26 (.pointer (some a)) (.pointer (some a))).run Yba.prog w = .ok (.bool false) w := by
  obtain ⟨j, hj, _⟩ := info41
  have h : ∀ d : Nat, (Op.equalIn (d + 1) 26 (.pointer (some a)) (.pointer (some a))).run Yba.prog w = .ok true w := fun d => by
    simp [Op.equalIn, run_underlying Yba.underlying26, sizeOf, typeInfo, hj, run_sameAddr_same]
  simp only [binOp]
  simp [Op.equal, Op.maxDepth, h 9999]
theorem St.eql_other {w : World} {B RB n k : Nat} {hd nx : Nat → Option Nat} (s : St w B RB n k hd nx) {i j : Nat} (hi : i < n) (hj : j < n) (hne : i ≠ j) :
    (binOp .eql 26 (.pointer (some ⟨RB + i, 0, none⟩)) (.pointer (some ⟨RB + j, 0, none⟩))).run Yba.prog w = .ok (.bool false) w := by
  obtain ⟨q, hq, hs⟩ := info41
  obtain ⟨c, h1, _⟩ := s.run i hi
  obtain ⟨c', h1', _⟩ := s.run j hj
  exact run_eql_ptr_other w Yba.underlying26 hq hs (fun e => hne (by have := congrArg Addr.block e; simp only at this; omega)) h1 h1'

end Go.Proofs.Ybulkdceq
