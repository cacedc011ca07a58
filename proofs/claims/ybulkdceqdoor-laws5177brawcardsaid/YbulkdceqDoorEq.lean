/-
  bytes.Equal, zzs5177bsame, append, over the predicates of this proof.
-/
import Derived.Test.YbulkdceqDoorCmd
import Derived.Lib.AppendZeros
import Derived.Deep.DeepCutAuto
import Derived.Deep.CutBlock
import Derived.BigQuiet
namespace Go.Proofs.YbulkdceqDoor
open Go.RowKit

/-- the bytes as numbers -/
def nums (l : List UInt8) : List Int := l.map fun b => (b.toNat : Int)
theorem nums_length (l : List UInt8) : (nums l).length = l.length := by simp [nums]
theorem bytesOf_nums (l : List UInt8) : Lib.bytesOf (nums l) = l := by
  induction l with
  | nil => rfl
  | cons b r ih =>
    show UInt8.ofNat ((b.toNat : Int)).toNat :: Lib.bytesOf (nums r) = b :: r
    rw [ih, Int.toNat_natCast, UInt8.ofNat_toNat]

theorem SliceIs.bytes {w : World} {D : Nat} {v : Value} {l : List UInt8} (h : SliceIs w D v l) : ∃ p c, v = .slice p l.length c ∧ Lib.BytesIn w p l.length (nums l) := by
  obtain ⟨a, c, rfl, _, _, h3⟩ := h
  refine ⟨a, c, rfl, fun hpos => ?_⟩
  obtain ⟨g, o, rfl, _, hc⟩ := h3 (fun e => by subst e; simp at hpos)
  refine ⟨g, o, rfl, fun i hi => ?_⟩
  rw [hc i hi]
  simp [nums, List.getD, hi]

theorem KeyIs.slice {w : World} {D : Nat} {v : Value} {l : List UInt8} (h : KeyIs w D v l) : ∃ p c, v = .slice p l.length c ∧ Lib.BytesIn w p l.length (nums l) := by
  rcases h with ⟨rfl, rfl⟩ | ⟨g, o, c, h1, rfl, h3, h4⟩
  · exact ⟨none, 0, rfl, fun h => by simp at h⟩
  · refine ⟨_, c, rfl, fun _ => ⟨g, o, rfl, fun i hi => ?_⟩⟩
    rw [h4 i hi]
    simp [nums, List.getD, hi]

theorem equal_any {w : World} {v1 v2 : Value} {l1 l2 : List UInt8} (h1 : ∃ p c, v1 = .slice p l1.length c ∧ Lib.BytesIn w p l1.length (nums l1)) (h2 : ∃ p c, v2 = .slice p l2.length c ∧ Lib.BytesIn w p l2.length (nums l2)) :
    Calls Ybad.prog 9 #[v1, v2] w fun e w' => e = .returned (.bool (l1 == l2)) ∧ w' = w := by
  obtain ⟨p, c, rfl, h1⟩ := h1
  obtain ⟨q, d, rfl, h2⟩ := h2
  have h := Ybad.bytes_Equal_all p q _ c _ d _ _ w (nums_length l1) (nums_length l2) h1 h2
  rwa [bytesOf_nums, bytesOf_nums] at h

theorem eqlNil (a : Option Addr) (n c : Nat) (w : World) : (binOp .eql 23 (.slice a n c) (.slice none 0 0)).run Ybad.prog w = .ok (.bool a.isNone) w := by
  have h : ∀ d : Nat, (Op.equalIn (d + 1) 23 (.slice a n c) (.slice none 0 0)).run Ybad.prog w = .ok a.isNone w := fun d => by
    cases a <;> simp [Op.equalIn, run_underlying Ybad.underlying23]
  simp only [binOp]
  simp [Op.equal, Op.maxDepth, h 9999]

set_option maxHeartbeats 400000 in
theorem same_any {w : World} {D : Nat} {v1 v2 : Value} {l : List UInt8} (h1 : KeyIs w D v1 l) (h2 : ∃ p c, v2 = .slice p l.length c ∧ Lib.BytesIn w p l.length (nums l)) :
    Calls Ybad.prog 8 #[v1, v2] w fun e w' => e = .returned (.bool true) ∧ w' = w := by
  have he := equal_any h1.slice h2
  have A : Hid (Calls Ybad.prog 9 #[v1, v2] w fun e w' => e = .returned (.bool true) ∧ w' = w) := by
    simp only [beq_self_eq_true] at he
    exact he
  clear he
  obtain ⟨q, d, rfl, _⟩ := h2
  have hq := eqlNil
  rcases h1 with ⟨rfl, rfl⟩ | ⟨g, o, c, hne, rfl, h3, h4⟩
  · go_enter Ybad.func8, Ybad.ntmps8
    go_wp2_with (go_at_call 9; refine A.out.mono ?_; rintro e w' ⟨rfl, rfl⟩)
    go_ret
    exact ⟨rfl, rfl⟩
  · have hz : ((l.length : Int) == 0) = false := by
      have : l.length ≠ 0 := fun e => hne (List.length_eq_zero_iff.1 e)
      simp
      omega
    clear hne h4
    go_enter Ybad.func8, Ybad.ntmps8
    go_wp2_with (go_at_call 9; refine A.out.mono ?_; rintro e w' ⟨rfl, rfl⟩)
    go_ret
    exact ⟨rfl, rfl⟩

/-- a byte slice that came in -/
def ArgIs (w : World) (N : Nat) (v : Value) (l : List UInt8) : Prop :=
  (v = .slice none 0 0 ∧ l = []) ∨ ∃ x c, v = .slice (some x) l.length c ∧ (l ≠ [] → ∃ g o, x = ⟨g, o, none⟩ ∧ g < N ∧ ∀ j (hj : j < l.length), w.cell? ⟨g, o + j, none⟩ = some (.int .u8 (l[j]).toNat))
theorem ArgIs.slice {w : World} {N : Nat} {v : Value} {l : List UInt8} (h : ArgIs w N v l) : ∃ p c, v = .slice p l.length c ∧ Lib.BytesIn w p l.length (nums l) := by
  rcases h with ⟨rfl, rfl⟩ | ⟨x, c, rfl, h3⟩
  · exact ⟨none, 0, rfl, fun h => by simp at h⟩
  · refine ⟨_, c, rfl, fun hpos => ?_⟩
    obtain ⟨g, o, rfl, _, hc⟩ := h3 (fun e => by subst e; simp at hpos)
    refine ⟨g, o, rfl, fun i hi => ?_⟩
    rw [hc i hi]
    simp [nums, List.getD, hi]
theorem ArgIs.up {w W : World} {N : Nat} {v : Value} {l : List UInt8} (h : ArgIs w N v l) (hb : ∀ b, b < N → W.heap[b]? = w.heap[b]?) : ArgIs W N v l := by
  rcases h with h | ⟨x, c, rfl, h3⟩
  · exact .inl h
  · refine .inr ⟨x, c, rfl, fun hl => ?_⟩
    obtain ⟨g, o, rfl, hg, hc⟩ := h3 hl
    exact ⟨g, o, rfl, hg, fun j hj => by rw [World.cell?_of_block (w := w) (hb g hg)]; exact hc j hj⟩

theorem info5 : (Ybad.prog.info? 5).map (fun i => (i.zero, i.size, i.bytes)) = some (some (.int .u8 0), 1, 1) := by kernel_rfl

/-- the buffer that the law builds -/
structure OB (w W : World) (v : Value) (l : List UInt8) : Prop where
  own : W.ownsRow w.heap.size 5 1 v l.length (Lib.byteCells l)
  bel : Below w.heap.size w W
  small : l.length ≤ 100000

theorem OB.uvarint {w W : World} {v : Value} {l : List UInt8} (h : OB w W v l) (x : Nat) (hx : x < 18446744073709551616) (hs : l.length ≤ 90000) :
    Calls Ybad.prog 6 #[v, .int .u64 x] W fun e w' => ∃ v', e = .returned v' ∧ OB w w' v' (l ++ Lib.uvarint x) := by
  refine (Ybad.binary_AppendUvarint w.heap.size l.length x hx v _ W h.own h.bel.size (by omega)).mono ?_
  rintro e w' ⟨v', rfl, h1, h2⟩
  have h3 := Lib.uvarint_length64 hx
  refine ⟨v', rfl, ⟨?_, h.bel.trans h2, by simp; omega⟩⟩
  rw [List.length_append]
  have e : Lib.byteCells (l ++ Lib.uvarint x) = Lib.byteCells l ++ Lib.byteCells (Lib.uvarint x) := by simp [Lib.byteCells]
  rw [e]
  exact h1

/-- append(buf, src...) -/
theorem OB.append {w W : World} {v src : Value} {l k : List UInt8} (h : OB w W v l) (hs : (src = .slice none 0 0 ∧ k = []) ∨ ∃ x c, src = .slice (some x) k.length c ∧ (k ≠ [] → ∃ g o, x = ⟨g, o, none⟩ ∧ ∀ j (hj : j < k.length), W.cell? ⟨g, o + j, none⟩ = some (.int .u8 (k[j]).toNat))) (hl : l.length ≤ 90000) (hk : k.length ≤ 5000) (ty : TypeId) :
    ∃ v' W', (Builtin.append_ #[23, 23] ty #[v, src]).run Ybad.prog W = .ok v' W' ∧ OB w W' v' (l ++ k) := by
  obtain ⟨i0, hi0, hz0, hz1, hz2⟩ := info_parts info5
  rcases hs with ⟨rfl, rfl⟩ | ⟨x, c, rfl, hx⟩
  · exact ⟨v, W, run_append_owned_none W w.heap.size 23 ty 5 i0 1 Ybad.underlying23 hi0 v _ _ h.own, by rw [List.append_nil]; exact h⟩
  · obtain ⟨v', W', hr, h2, h3, h4⟩ := run_append_own (P := Ybad.prog) W w.heap.size 23 ty 5 i0 (.int .u8 0) 1 1 Ybad.underlying23 hi0 hz0 hz1 hz2 rfl (by decide) v l.length _ h.own x k.length c (Lib.byteCells k) (by simp [Lib.byteCells])
      (fun j u hu => by
        have hj : j < k.length := by
          have := (List.getElem?_eq_some_iff.1 hu).1
          simpa [Lib.byteCells] using this
        obtain ⟨g, o, rfl, hc⟩ := hx (fun e => by subst e; simp at hj)
        rw [Addr.add_lit, hc j hj]
        rw [← hu]
        simp [Lib.byteCells, hj])
      (fun u hu => by
        obtain ⟨b, _, rfl⟩ := List.mem_map.1 hu
        rfl) (by unfold maxLen; omega) (by omega) h.bel.size
    refine ⟨v', W', hr, ⟨?_, h.bel.grown h3 h.bel.size (fun q hq => (h.own.lt q hq).1), by simp; omega⟩⟩
    rw [List.length_append]
    have e : Lib.byteCells (l ++ k) = Lib.byteCells l ++ Lib.byteCells k := by simp [Lib.byteCells]
    rw [e]
    exact h2
end Go.Proofs.YbulkdceqDoor
