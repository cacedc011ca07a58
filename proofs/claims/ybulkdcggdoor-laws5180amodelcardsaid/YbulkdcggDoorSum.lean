/-
  THE WALKS of sum16 and fold.
-/
import Derived.Test.YbulkdcggDoorRows
import Derived.Test.YbulkdcggDoorPlain
import Derived.Test.YbulkdcggDoorShelf
import Derived.WalkKit
import Derived.ProofKit
import Derived.Below
import Derived.Deep.LoopGhost
import Derived.Deep.DeepCutAuto
import Derived.Deep.CutBlock
import Derived.BigQuiet
import Derived.Laws.BitsAllLaws
namespace Go.Proofs.YbulkdcggDoor
open Go.RowKit

theorem hide {p : Prop} (h : p) : Hid p := h

/-- v is a slice of the bytes l, its array in a block below N -/
def SliceIs (w : World) (N : Nat) (v : Value) (l : List UInt8) : Prop :=
  ∃ a c, v = .slice a l.length c ∧ l.length ≤ c ∧ c ≤ maxLen ∧ (l ≠ [] → ∃ g o, a = some ⟨g, o, none⟩ ∧ g < N ∧ ∀ j (hj : j < l.length), w.cell? ⟨g, o + j, none⟩ = some (.int .u8 (l[j]).toNat))
theorem SliceIs.up {w W : World} {N : Nat} {v : Value} {l : List UInt8} (d : SliceIs w N v l) (h : ∀ b, b < N → W.heap[b]? = w.heap[b]?) : SliceIs W N v l := by
  obtain ⟨a, c, rfl, h2, h3, h4⟩ := d
  refine ⟨a, c, rfl, h2, h3, fun hl => ?_⟩
  obtain ⟨g, o, rfl, hg, hc⟩ := h4 hl
  exact ⟨g, o, rfl, hg, fun j hj => by rw [World.cell?_of_block (w := w) (h g hg)]; exact hc j hj⟩
theorem slice_from {w : World} {N : Nat} {g o len c : Nat} {l : List UInt8} (hl : l.length = len) (hc : len ≤ c) (hm : c ≤ maxLen) (hg : g < N) (hcell : ∀ j (hj : j < l.length), w.cell? ⟨g, o + j, none⟩ = some (.int .u8 (l[j]).toNat)) (n : Nat) (hn : n ≤ len) (A : Option Addr) (hA : A = if c = n then some ⟨g, o, none⟩ else some ⟨g, o + n, none⟩) :
    SliceIs w N (.slice A (len - n) (c - n)) (l.drop n) := by
  refine ⟨A, c - n, by simp [hl], by simp; omega, by omega, fun hne => ?_⟩
  have hlt : n < len := by
    rcases Nat.lt_or_ge n len with h | h
    · exact h
    · exact absurd (List.drop_eq_nil_of_le (by omega)) hne
  rw [if_neg (by omega)] at hA
  refine ⟨g, o + n, hA, hg, fun j hj => ?_⟩
  simp at hj
  rw [show o + n + j = o + (n + j) by omega, hcell (n + j) (by omega)]
  simp

theorem be2 (a b : UInt8) : Lib.beNat [a, b] = a.toNat * 256 + b.toNat := by simp [Lib.beNat, Lib.beFrom]

set_option maxHeartbeats 3200000 in
set_option maxRecDepth 100000 in
theorem sum16_any {w : World} {N : Nat} {v : Value} {l : List UInt8} (s : Nat) (h : SliceIs w N v l) (hN : N ≤ w.heap.size) (hb : s + words l < 4294967296) :
    Calls Ybad.prog 11 #[.int .u32 s, v] w fun e w' => e = .returned (.int .u32 ((s + words l : Nat) : Int)) ∧ Below w.heap.size w w' := by
  obtain ⟨a, c, rfl, h'⟩ := h
  have H0 : Hid (SliceIs w N (.slice a l.length c) l) := ⟨a, c, rfl, h'⟩
  clear h'
  go_enter Ybad.func11, Ybad.ntmps11
  go_wp2
  go_loopg [0, 1] l.length (fun g s0 s1 wr => ∃ (t : Nat) (l' : List UInt8) (a' : Option Addr) (c' : Nat), s0 = .int .u32 (t : Int) ∧ s1 = .slice a' l'.length c' ∧ Hid (SliceIs w N (.slice a' l'.length c') l') ∧ g = l'.length ∧ Below w.heap.size w wr ∧ t + words l' < 4294967296 ∧ Hid (t + words l' = s + words l))
  case atStart => exact ⟨s, l, a, c, rfl, rfl, H0, rfl, Below.refl _ _, hb, rfl⟩
  case round =>
    obtain ⟨t, l', a', c', rfl, rfl, H1, hg, hbel, hlt, H2⟩ := hrel
    rcases l' with _ | ⟨b, _ | ⟨d, r⟩⟩
    · go_wp2
      go_ret
      exact ⟨by have := H2.out; simp [words] at this; rw [← this]; rfl, hbel⟩
    · obtain ⟨a1, c1, e1, h2, h3, h4⟩ := H1.out
      obtain ⟨rfl, _, rfl⟩ : a' = a1 ∧ True ∧ c' = c1 := by simpa using e1
      obtain ⟨g, o, rfl, hgN, hc⟩ := h4 (by simp)
      have hc0 : wr.cell? ⟨g, o, none⟩ = some (.int .u8 b.toNat) := by rw [hbel.cell (by simp only; omega)]; exact hc 0 (by simp)
      have hbb : b.toNat < 256 := b.toNat_lt
      simp only [words] at hlt
      clear h4 hc e1
      go_wp2
      go_ret
      refine ⟨?_, hbel⟩
      have e2 := H2.out
      simp only [words] at e2
      exact congrArg (fun z => Ending.returned (Value.int .u32 z)) (show (t : Int) + (b.toNat : Int) * 256 = ((s + words l : Nat) : Int) by omega)
    · obtain ⟨a1, c1, e1, h2, h3, h4⟩ := H1.out
      obtain ⟨rfl, _, rfl⟩ : a' = a1 ∧ True ∧ c' = c1 := by simpa using e1
      obtain ⟨g, o, rfl, hgN, hc⟩ := h4 (by simp)
      have hc0 : wr.cell? ⟨g, o, none⟩ = some (.int .u8 b.toNat) := by rw [hbel.cell (by simp only; omega)]; exact hc 0 (by simp)
      have hc1 : wr.cell? ⟨g, o + 1, none⟩ = some (.int .u8 d.toNat) := by rw [hbel.cell (by simp only; omega)]; exact hc 1 (by simp)
      have hbb : b.toNat < 256 := b.toNat_lt
      have hdb : d.toNat < 256 := d.toNat_lt
      have hf := slice_from (w := w) (N := N) rfl h2 h3 hgN hc 2 (by simp)
      have HF : Hid (∀ A, A = (if c' = 2 then some (⟨g, o, none⟩ : Addr) else some ⟨g, o + 2, none⟩) → SliceIs w N (.slice A r.length (c' - 2)) r) := hf
      have H3 : Hid (t + (b.toNat * 256 + d.toNat) + words r = s + words l) := by
        have := H2.out
        simp only [words] at this
        show t + (b.toNat * 256 + d.toNat) + words r = s + words l
        omega
      simp only [words] at hlt
      have hlt2 : t + (b.toNat * 256 + d.toNat) < 4294967296 := by omega
      unfold maxLen at h3
      simp only [List.length_cons] at h2 hg
      have h22 : (2 : Int) ≤ (r.length : Int) + 1 + 1 := by omega
      clear h4 hc e1 hf H1 H2
      go_wp2_with fail
      refine (Ybad.binary_BE_Uint16 g o _ c' b d wr (by omega) hc0 hc1).mono ?_
      rintro e w1 ⟨rfl, hb1⟩
      rw [be2]
      have hbel1 := hbel.trans (hb1.mono hbel.size)
      go_wp2
      · go_roundg r.length
        case measure => omega
        case rel =>
          have q := HF.out _ rfl
          rw [if_pos (by assumption), show c' - 2 = 0 by omega] at q
          exact ⟨t + (b.toNat * 256 + d.toNat), r, _, 0, by go_num, rfl, q, rfl, hbel1, by omega, H3⟩
      · go_roundg r.length
        case measure => omega
        case rel => exact ⟨t + (b.toNat * 256 + d.toNat), r, _, _, by go_num, rfl, HF.out _ (by rw [if_neg (by assumption)]), rfl, hbel1, by omega, H3⟩

theorem wraps_u32 (n : Int) (h₀ : 0 ≤ n) (h₁ : n < 2 ^ 32) : IntKind.u32.wrap n = n := by rw [IntKind.wrap_u32]; omega
theorem mask16 (t : Nat) (h : t < 4294967296) : bits .and .u32 (t : Int) 65535 = ((t % 65536 : Nat) : Int) := by
  have e := bits_mask .u32 32 (by decide) wraps_u32 16 (by decide) (t : Int) (by omega) (by omega)
  have e1 : ((2 : Int) ^ 16 - 1) = 65535 := by decide
  have e2 : ((2 : Int) ^ 16) = 65536 := by decide
  rw [e1, e2] at e
  rw [e]
  omega

set_option maxHeartbeats 1600000 in
theorem fold_any (s : Nat) (w : World) (hs : s < 4294967296) :
    Calls Ybad.prog 13 #[.int .u32 s] w fun e w' => e = .returned (.int .u16 ((foldN s : Nat) : Int)) ∧ w' = w := by
  go_enter Ybad.func13, Ybad.ntmps13
  go_wp2
  go_loopg [0] s (fun g s0 wr => ∃ t : Nat, s0 = .int .u32 (t : Int) ∧ wr = w ∧ t < 4294967296 ∧ g = t ∧ Hid (foldN t = foldN s))
  case atStart => exact ⟨s, rfl, rfl, hs, rfl, rfl⟩
  case round =>
    obtain ⟨t, rfl, rfl, ht, hg, H⟩ := hrel
    by_cases hlt : 65535 < t
    · have H2 := hide (foldN_step hlt)
      go_wp2
      go_roundg (t % 65536 + t / 65536)
      case measure => omega
      case rel =>
        refine ⟨t % 65536 + t / 65536, ?_, rfl, by omega, rfl, H2.out.trans H.out⟩
        rw [mask16 t ht]
        exact congrArg (Value.int .u32) (by omega)
    · have H2 := hide (foldN_small (show t ≤ 65535 by omega))
      go_wp2
      go_ret
      exact ⟨congrArg (fun z : Nat => Ending.returned (Value.int .u16 (z : Int))) (H2.out.symm.trans H.out), rfl⟩
end Go.Proofs.YbulkdcggDoor
