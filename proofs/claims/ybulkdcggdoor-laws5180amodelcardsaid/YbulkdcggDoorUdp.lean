/-
  THE WALK of udpChecksum.
-/
import Derived.Test.YbulkdcggDoorAs
namespace Go.Proofs.YbulkdcggDoor
open Go.RowKit

/-- the address (hi, lo, z) has the bytes l -/
def AddrIs (p4 p6 : Addr) (hi lo : Nat) (z : Option Addr) (l : List UInt8) : Prop :=
  (hi = 0 ∧ lo = 0 ∧ z = none ∧ l = []) ∨ (z = some p4 ∧ l = Lib.beBytes 4 (lo % 4294967296)) ∨ (z = some p6 ∧ hi < 18446744073709551616 ∧ lo < 18446744073709551616 ∧ l = Lib.beBytes 8 hi ++ Lib.beBytes 8 lo)
theorem AddrIs.length {p4 p6 : Addr} {hi lo : Nat} {z : Option Addr} {l : List UInt8} (h : AddrIs p4 p6 hi lo z l) : l.length ≤ 16 := by
  rcases h with ⟨_, _, _, rfl⟩ | ⟨_, rfl⟩ | ⟨_, _, _, rfl⟩ <;> simp [Lib.beBytes_length]
theorem AddrIs.words {p4 p6 : Addr} {hi lo : Nat} {z : Option Addr} {l : List UInt8} (h : AddrIs p4 p6 hi lo z l) : words l ≤ 557056 := by
  have := words_le _ l (Nat.le_refl _)
  have := h.length
  omega
theorem as_any {w : World} {N : Nat} {p4 p6 : Addr} (zs : Zs w N p4 p6) {hi lo : Nat} {z : Option Addr} {l : List UInt8} (h : AddrIs p4 p6 hi lo z l) :
    Calls Ybad.prog 12 #[.agg #[.int .u64 hi, .int .u64 lo, .pointer z]] w fun e w' => ∃ v, e = .returned v ∧ SliceIs w' w'.heap.size v l ∧ Below w.heap.size w w' := by
  rcases h with ⟨rfl, rfl, rfl, rfl⟩ | ⟨rfl, rfl⟩ | ⟨rfl, h1, h2, rfl⟩
  · refine (as_nil zs).mono ?_
    rintro e w' ⟨rfl, hb⟩
    exact ⟨_, rfl, ⟨none, 0, rfl, Nat.le_refl _, by decide, fun h => absurd rfl h⟩, hb⟩
  · exact as_four zs hi lo
  · exact as_sixteen zs hi lo h1 h2

theorem xor_ones (f : Nat) (h : f < 65536) : 65535 ^^^ f = 65535 - f := by
  have e := congrArg BitVec.toNat (BitVec.allOnes_xor (x := BitVec.ofNat 16 f))
  rw [BitVec.toNat_xor, BitVec.toNat_not, BitVec.toNat_allOnes, BitVec.toNat_ofNat, Nat.mod_eq_of_lt h] at e
  exact e
theorem not16 (f c : Nat) (h : c + f = 65535) : bits .xor .u16 (if IntKind.u16.signed = true then -1 else IntKind.u16.max) (f : Int) = (c : Int) := by
  have e : (if IntKind.u16.signed = true then (-1 : Int) else IntKind.u16.max) = ((65535 : Nat) : Int) := by decide
  rw [e, u16_xor_nat 65535 f (by decide) (by omega), xor_ones f (by omega), show 65535 - f = c by omega]

set_option maxHeartbeats 6400000 in
set_option maxRecDepth 100000 in
theorem udp_any {w : World} {N M : Nat} {p4 p6 : Addr} (zs : Zs w N p4 p6) {hi lo hi' lo' : Nat} {z z' : Option Addr} {sl dl d : List UInt8} {v : Value} (hs : AddrIs p4 p6 hi lo z sl) (hd : AddrIs p4 p6 hi' lo' z' dl) (hv : SliceIs w M v d) (hM : M ≤ w.heap.size) (hlen : d.length ≤ 5000) :
    Calls Ybad.prog 8 #[.agg #[.int .u64 hi, .int .u64 lo, .pointer z], .agg #[.int .u64 hi', .int .u64 lo', .pointer z'], v] w fun e w' => e = .returned (.int .u16 (chk (words sl + words dl + 17 + d.length + words d))) ∧ Below w.heap.size w w' := by
  have w1b := hs.words
  have w2b := hd.words
  have w3b := words_le _ d (Nat.le_refl _)
  have HS := hide hs
  have HD := hide hd
  have HV := hide hv
  have HZ := hide zs
  obtain ⟨a, c, rfl, hc1, hc2, _⟩ := hv
  clear hs hd zs
  have fb := foldN_le (words sl + words dl + 17 + d.length + words d)
  go_enter Ybad.func8, Ybad.ntmps8
  go_wp2_with fail
  obtain ⟨hsz, hbel, hb0, hb1⟩ := alloc2 w (Obj.cells #[.int .u64 hi, .int .u64 lo, .pointer z] 31) (Obj.cells #[.int .u64 hi', .int .u64 lo', .pointer z'] 31)
  generalize (w.alloc (Obj.cells #[.int .u64 hi, .int .u64 lo, .pointer z] 31)).alloc (Obj.cells #[.int .u64 hi', .int .u64 lo', .pointer z'] 31) = W at *
  refine (as_any (HZ.out.up (fun b hb => hbel.block b (by have := HZ.out.le; omega)) hbel.size) HS.out).mono ?_
  rintro e w1 ⟨v1, rfl, S1, B1⟩
  rw [hsz] at B1
  go_wp2_with fail
  refine (sum16_any 0 S1 (Nat.le_refl _) (by omega)).mono ?_
  rintro e w2 ⟨rfl, B2⟩
  have T2 : Below (w.heap.size + 2) W w2 := B1.trans (B2.mono (by have := B1.size; omega))
  have e2 : w2.heap[w.heap.size + 1]? = _ := (T2.block _ (by omega)).trans hb1
  have x0 : w2.cell? ⟨w.heap.size + 1, 0, none⟩ = some (.int .u64 hi') := by simp [World.cell?, e2]
  have x1 : w2.cell? ⟨w.heap.size + 1, 1, none⟩ = some (.int .u64 lo') := by simp [World.cell?, e2]
  have x2 : w2.cell? ⟨w.heap.size + 1, 2, none⟩ = some (.pointer z') := by simp [World.cell?, e2]
  clear S1 B2 e2
  go_wp2_with fail
  refine (as_any (HZ.out.up (fun b hb => (T2.block b (by have := HZ.out.le; omega)).trans (hbel.block b (by have := HZ.out.le; omega))) (Nat.le_trans hbel.size T2.size)) HD.out).mono ?_
  rintro e w3 ⟨v3, rfl, S3, B3⟩
  go_wp2_with fail
  refine (sum16_any (words sl) S3 (Nat.le_refl _) (by omega)).mono ?_
  rintro e w4 ⟨rfl, B4⟩
  have T4 : Below (w.heap.size + 2) W w4 := T2.trans ((B3.mono (by have := T2.size; omega)).trans (B4.mono (by have := T2.size; have := B3.size; omega)))
  have U4 : Below w.heap.size w w4 := hbel.trans (T4.mono (by omega))
  have V4 := HV.out.up (W := w4) (fun b hb => U4.block b (by omega))
  have n0 : (0 : Int) ≤ (d.length : Int) := by omega
  have n1 : (d.length : Int) ≤ 5000 := by omega
  clear S3 B3 B4 x0 x1 x2 T2 HV B1
  go_wp2_with fail
  have e1 : ((words sl : Int) + (words dl : Int) + (17 + (d.length : Int))) = ((words sl + words dl + 17 + d.length : Nat) : Int) := by omega
  rw [e1]
  clear e1
  refine (sum16_any (words sl + words dl + 17 + d.length) V4 (by have := U4.size; omega) (by omega)).mono ?_
  rintro e w5 ⟨rfl, B5⟩
  obtain ⟨T, hT⟩ : ∃ T, T = words sl + words dl + 17 + d.length + words d := ⟨_, rfl⟩
  rw [← hT] at fb ⊢
  have hT2 : T < 4294967296 := by omega
  have HT := hide hT
  clear hT w1b w2b w3b
  have B6 := U4.trans (B5.mono U4.size)
  go_wp2_with fail
  refine (fold_any T w5 hT2).mono ?_
  rintro e w6 ⟨rfl, rfl⟩
  obtain ⟨F, hF⟩ : ∃ F, F = foldN T := ⟨_, rfl⟩
  rw [← hF] at fb ⊢
  obtain ⟨C, hC⟩ : ∃ C, C + F = 65535 := ⟨65535 - F, by omega⟩
  have hq := not16 F C hC
  have hres : Hid (chk (words sl + words dl + 17 + d.length + words d) = if C = 0 then 65535 else C) := by
    show chk _ = _
    rw [← HT.out]
    unfold chk
    rw [← hF]
    split <;> split <;> omega
  clear hF hC HT fb
  by_cases h0 : C = 0
  · subst h0
    go_wp2_with fail
    go_ret
    exact ⟨by rw [hres.out]; rfl, B6⟩
  · have hz : ((C : Int) == 0) = false := by simpa using h0
    go_wp2_with fail
    go_ret
    exact ⟨by rw [hres.out, if_neg h0]; rfl, B6⟩
end Go.Proofs.YbulkdcggDoor
