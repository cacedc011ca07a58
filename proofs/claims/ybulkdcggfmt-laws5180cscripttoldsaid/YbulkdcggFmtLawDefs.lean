/-
  WHAT THE WALK of LawS5180CScript stands on.
-/
import Derived.Test.YbulkdcggFmtMake
import Derived.LaidEqlPtr
namespace Go.Proofs.YbulkdcggFmt
open Go.RowKit

theorem ptr_neq (w : World) (a : Addr) : (binOp .neq 36 (.pointer (some a)) (.pointer (some a))).run Ybaf.prog w = .ok (.bool false) w := by
  obtain ⟨j, hj⟩ : ∃ j, Ybaf.prog.info? 44 = some j := Option.isSome_iff_exists.1 (by kernel_rfl)
  have h : ∀ d : Nat, (Op.equalIn (d + 1) 36 (.pointer (some a)) (.pointer (some a))).run Ybaf.prog w = .ok true w := fun d => by
    simp [Op.equalIn, run_underlying Ybaf.underlying36, sizeOf, typeInfo, hj, run_sameAddr_same]
  simp only [binOp]
  simp [Op.equal, Op.maxDepth, h 9999]
theorem sl_nil (w : World) : (binOp .eql 25 (.slice none 0 0) (.slice none 0 0)).run Ybaf.prog w = .ok (.bool true) w := by
  have h : ∀ d : Nat, (Op.equalIn (d + 1) 25 (.slice none 0 0) (.slice none 0 0)).run Ybaf.prog w = .ok true w := fun d => by
    simp [Op.equalIn, run_underlying Ybaf.underlying25]
  simp only [binOp]
  simp [Op.equal, Op.maxDepth, h 9999]
theorem sl_some (w : World) (a : Addr) (n c : Nat) : (binOp .eql 25 (.slice (some a) n c) (.slice none 0 0)).run Ybaf.prog w = .ok (.bool false) w := by
  have h : ∀ d : Nat, (Op.equalIn (d + 1) 25 (.slice (some a) n c) (.slice none 0 0)).run Ybaf.prog w = .ok false w := fun d => by
    simp [Op.equalIn, run_underlying Ybaf.underlying25]
  simp only [binOp]
  simp [Op.equal, Op.maxDepth, h 9999]
theorem wraps_u16 (n : Int) (h₀ : 0 ≤ n) (h₁ : n < 2 ^ 16) : IntKind.u16.wrap n = n := by rw [IntKind.wrap_u16]; omega
def nums (l : List UInt8) : List Int := l.map (fun b => (b.toNat : Int))
theorem SliceIs.bytes {w : World} {N : Nat} {v : Value} {l : List UInt8} (h : SliceIs w N v l) : ∃ p c, v = .slice p l.length c ∧ Lib.BytesIn w p l.length (nums l) := by
  obtain ⟨a, c, rfl, _, _, h4⟩ := h
  refine ⟨a, c, rfl, fun hpos => ?_⟩
  obtain ⟨g, o, rfl, _, hc⟩ := h4 (fun e => by subst e; simp at hpos)
  refine ⟨g, o, rfl, fun i hi => ?_⟩
  rw [hc i hi]
  simp [nums, List.getD, hi]
theorem equal_any {w : World} {N M : Nat} {v u : Value} {l : List UInt8} (h : SliceIs w N v l) (h' : SliceIs w M u l) : Calls Ybaf.prog 8 #[v, u] w fun e w' => e = .returned (.bool true) ∧ w' = w := by
  obtain ⟨p, c, rfl, b1⟩ := h.bytes
  obtain ⟨q, d, rfl, b2⟩ := h'.bytes
  refine (Ybaf.bytes_Equal_all p q l.length c l.length d (nums l) (nums l) w (by simp [nums]) (by simp [nums]) b1 b2).mono ?_
  rintro e w' ⟨rfl, rfl⟩
  exact ⟨by simp, rfl⟩

def tabOf (k : Nat) : Nat := if k < 6 then idOf k else 0
theorem tab_lt (k : Nat) : tabOf k < 65536 := by
  unfold tabOf
  split
  · exact idOf_lt k
  · decide
/-- the state between two rounds -/
structure St (w : World) (s : Shape) (cb fa tb cur : Nat) (rv : Value) (rl : List UInt8) (W : World) : Prop where
  tree : Tree s cb W
  card : Card s W cb cur rv
  resp : SliceIs W W.heap.size rv rl
  form : rv = .slice none 0 0 ∨ ∃ g n, rv = .slice (some ⟨g, 0, none⟩) n n
  fil : ∀ k, k < 6 → W.cell? ⟨fa, k, none⟩ = some (.pointer (some ⟨s.b k, 0, none⟩))
  tab : ∀ k, k < 7 → W.cell? ⟨tb, k, none⟩ = some (.int .u16 (tabOf k : Nat))
  bel : Below w.heap.size w W
  lo : w.heap.size ≤ cb
  l1 : cb < fa
  l2 : fa < tb
  l3 : tb < W.heap.size
theorem St.up {w : World} {s : Shape} {cb fa tb cur : Nat} {rv : Value} {rl : List UInt8} {W W' : World} (h : St w s cb fa tb cur rv rl W) (b : Below W.heap.size W W') : St w s cb fa tb cur rv rl W' := by
  have h1 := h.l1
  have h2 := h.l2
  have h3 := h.l3
  refine ⟨h.tree.up (fun x hx => b.block x (by omega)), h.card.up (b.block _ (by omega)) b.size, (h.resp.up (fun x hx => b.block x hx)).more b.size, h.form, fun k hk => ?_, fun k hk => ?_, h.bel.trans (b.mono h.bel.size), h.lo, h1, h2, Nat.lt_of_lt_of_le h3 b.size⟩
  · rw [b.cell (by simp only; omega)]; exact h.fil k hk
  · rw [b.cell (by simp only; omega)]; exact h.tab k hk
theorem St.sel {w : World} {s : Shape} {cb fa tb cur k : Nat} {rv : Value} {rl : List UInt8} {W W' : World} (h : St w s cb fa tb cur rv rl W) (b : Sel s W W' cb k) : ∃ g, St w s cb fa tb k (.slice (some ⟨g, 0, none⟩) (respOf k).length (respOf k).length) (respOf k) W' ∧ Buf W' g (respOf k) ∧ g < W'.heap.size := by
  have h1 := h.l1
  have h2 := h.l2
  have h3 := h.l3
  obtain ⟨g, c1, c2, c3, c4⟩ := b.card
  refine ⟨g, ⟨h.tree.up (fun x hx => b.bel.block x hx), c1, c2.slice c3 (by have := resp_len k; unfold maxLen; omega), .inr ⟨_, _, rfl⟩, fun k hk => ?_, fun k hk => ?_, h.bel.trans (b.bel.mono h.lo), h.lo, h1, h2, Nat.lt_of_lt_of_le h3 b.bel.size⟩, c2, c3⟩
  · rw [World.cell?_of_block (w := W) (b.far fa h1 (by omega))]; exact h.fil k hk
  · rw [World.cell?_of_block (w := W) (b.far tb (by omega) h3)]; exact h.tab k hk

/-- one step of the script as it came in -/
structure StepIs (w : World) (g o : Nat) (md pk p1 p2 : Nat) (dv : Value) (dl : List UInt8) : Prop where
  c0 : w.cell? ⟨g, o, none⟩ = some (.int .u8 (md : Nat))
  c1 : w.cell? ⟨g, o + 1, none⟩ = some (.int .u8 (pk : Nat))
  c2 : w.cell? ⟨g, o + 2, none⟩ = some (.int .u8 (p1 : Nat))
  c3 : w.cell? ⟨g, o + 3, none⟩ = some (.int .u8 (p2 : Nat))
  c4 : w.cell? ⟨g, o + 4, none⟩ = some dv
  d : SliceIs w w.heap.size dv dl
  b0 : md < 256
  b1 : pk < 256
  b2 : p1 < 256
  b3 : p2 < 256
/-- the script as it came in -/
def Script (w : World) (v : Value) (n : Nat) : Prop :=
  ∃ a c, v = .slice a n c ∧ n ≤ c ∧ c ≤ maxLen ∧ (0 < n → ∃ g o, a = some ⟨g, o, none⟩ ∧ g < w.heap.size ∧ ∀ i, i < n → ∃ md pk p1 p2 dv dl, StepIs w g (o + i * 5) md pk p1 p2 dv dl)

end Go.Proofs.YbulkdcggFmt
