/-
  THE WALKS of zzs5180aadd, zzs5180asum and LawS5180AModel.
-/
import Derived.Test.YbulkdcggDoorMk6
namespace Go.Proofs.YbulkdcggDoor
open Go.RowKit

theorem alloc1' (w : World) (o : Obj) : (w.alloc o).heap.size = w.heap.size + 1 ∧ Below w.heap.size w (w.alloc o) ∧ (w.alloc o).heap[w.heap.size]? = some o :=
  ⟨by simp, (Below.refl _ _).alloc (Nat.le_refl _) _, Array.getElem?_push_size⟩

set_option maxHeartbeats 3200000 in
set_option maxRecDepth 100000 in
theorem aadd_any (a x : Nat) (w : World) (hx : x ≤ 65535) :
    Calls Ybad.prog 7 #[.int .u32 (foldN a : Nat), .int .u32 (x : Nat)] w fun e w' => e = .returned (.int .u32 ((foldN (a + x) : Nat) : Int)) ∧ w' = w := by
  have H := hide (foldN_add (a := a) hx)
  have hb := foldN_le a
  generalize foldN a = F at *
  generalize foldN (a + x) = G at *
  by_cases h : 65535 < F + x
  · have H2 := hide ((if_pos h).symm.trans H.out)
    have h' : (65535 : Int) < (F : Int) + (x : Int) := by omega
    clear H
    go_enter Ybad.func7, Ybad.ntmps7
    go_wp2
    go_ret
    exact ⟨congrArg (fun z => Ending.returned (Value.int .u32 z)) (show (F : Int) + (x : Int) - 65535 = (G : Int) by have := H2.out; omega), rfl⟩
  · have H2 := hide ((if_neg h).symm.trans H.out)
    have h' : ¬ (65535 : Int) < (F : Int) + (x : Int) := by omega
    clear H
    go_enter Ybad.func7, Ybad.ntmps7
    go_wp2
    go_ret
    exact ⟨congrArg (fun z => Ending.returned (Value.int .u32 z)) (show (F : Int) + (x : Int) = (G : Int) by have := H2.out; omega), rfl⟩

theorem words_drop2 {l : List UInt8} {i : Nat} (h : i + 1 < l.length) : words (l.drop i) = l[i].toNat * 256 + l[i + 1].toNat + words (l.drop (i + 2)) := by
  rw [List.drop_eq_getElem_cons (show i < l.length by omega), List.drop_eq_getElem_cons h, words]
theorem words_drop1 {l : List UInt8} {i : Nat} (h : i < l.length) (h2 : ¬ i + 1 < l.length) : words (l.drop i) = l[i].toNat * 256 + words (l.drop (i + 2)) := by
  rw [List.drop_eq_getElem_cons h, List.drop_eq_nil_of_le (show l.length ≤ i + 1 by omega), List.drop_eq_nil_of_le (show l.length ≤ i + 2 by omega), words, words, Nat.add_zero]
theorem words_drop0 {l : List UInt8} {i : Nat} (h : ¬ i < l.length) : words (l.drop i) = 0 := by
  rw [List.drop_eq_nil_of_le (by omega), words]

set_option maxHeartbeats 3200000 in
set_option maxRecDepth 100000 in
theorem asum_any {w : World} {N : Nat} {v : Value} {l : List UInt8} (a : Nat) (h : SliceIs w N v l) (hlen : l.length ≤ 5000) :
    Calls Ybad.prog 6 #[.int .u32 (foldN a : Nat), v] w fun e w' => e = .returned (.int .u32 ((foldN (a + words l) : Nat) : Int)) ∧ w' = w := by
  obtain ⟨A, c, rfl, hc1, hc2, h'⟩ := h
  have H0 := hide h'
  clear h'
  go_enter Ybad.func6, Ybad.ntmps6
  go_wp2
  go_loopg [0, 5] l.length (fun g s0 s5 wr => ∃ (t i : Nat), s0 = .int .u32 (foldN t : Nat) ∧ s5 = .int .i64 (i : Nat) ∧ wr = w ∧ i ≤ l.length + 1 ∧ g = l.length - i ∧ Hid (t + words (l.drop i) = a + words l))
  case atStart => exact ⟨a, 0, rfl, rfl, rfl, by omega, by omega, by simp [Hid]⟩
  case round =>
    obtain ⟨t, i, rfl, rfl, rfl, hi, hg, H1⟩ := hrel
    by_cases h1 : i < l.length
    · obtain ⟨g0, o, rfl, hgN, hc⟩ := H0.out (by intro e; subst e; simp at h1)
      have hc0 := hc i h1
      have hi' : (i : Int) < (l.length : Int) := by omega
      by_cases h2 : i + 1 < l.length
      · have hc3 := hc (i + 1) h2
        have e := words_drop2 h2
        have hi2 : (i : Int) + 1 < (l.length : Int) := by omega
        generalize l[i] = b at *
        generalize l[i + 1] = d at *
        have hb := b.toNat_lt
        have hd := d.toNat_lt
        have H3 : Hid (t + (b.toNat * 256 + d.toNat) + words (l.drop (i + 2)) = a + words l) := by have := H1.out; rw [e] at this; show _ = _; omega
        have HA := hide (aadd_any t (b.toNat * 256 + d.toNat) wr (by omega))
        generalize foldN t = F at *
        clear H1 hc e
        go_wp2_with fail
        have eo : bits .or .u32 ((b.toNat : Int) * 256) (d.toNat : Int) = ((b.toNat * 256 + d.toNat : Nat) : Int) := by
          rw [bits_join .u32 32 (by decide) wraps_u32 8 _ _ (by omega) (by omega) (by omega) (by omega) (by omega) (by omega)]
          omega
        rw [eo]
        clear eo
        generalize b.toNat * 256 + d.toNat = X at *
        refine HA.out.mono ?_
        rintro e w1 ⟨rfl, rfl⟩
        go_wp2
        go_roundg (l.length - (i + 2))
        case measure => omega
        case rel => exact ⟨t + X, i + 2, rfl, rfl, rfl, by omega, rfl, H3⟩
      · have e := words_drop1 h1 h2
        have hi2 : ¬ (i : Int) + 1 < (l.length : Int) := by omega
        generalize l[i] = b at *
        have hb := b.toNat_lt
        have H3 : Hid (t + (b.toNat * 256) + words (l.drop (i + 2)) = a + words l) := by have := H1.out; rw [e] at this; show _ = _; omega
        have HA := hide (aadd_any t (b.toNat * 256) wr (by omega))
        clear H1 hc e
        go_wp2_with fail
        have eo : (b.toNat : Int) * 256 = ((b.toNat * 256 : Nat) : Int) := by omega
        rw [eo]
        clear eo
        generalize b.toNat * 256 = X at *
        refine HA.out.mono ?_
        rintro e w1 ⟨rfl, rfl⟩
        go_wp2
        go_roundg (l.length - (i + 2))
        case measure => omega
        case rel => exact ⟨t + X, i + 2, rfl, rfl, rfl, by omega, rfl, H3⟩
    · have e := words_drop0 h1
      have hi' : ¬ (i : Int) < (l.length : Int) := by omega
      have H3 : Hid (foldN t = foldN (a + words l)) := by have := H1.out; rw [e] at this; show _ = _; rw [← this]; rfl
      go_wp2
      go_ret
      exact ⟨congrArg (fun z : Nat => Ending.returned (Value.int .u32 (z : Int))) H3.out, rfl⟩
set_option maxHeartbeats 6400000 in
set_option maxRecDepth 100000 in
theorem model_any {w : World} {N M : Nat} {p4 p6 : Addr} (zs : Zs w N p4 p6) (sk dk : Nat) (hsk : sk < 256) (hdk : dk < 256) (s0 s1 s2 s3 s4 s5 s6 s7 s8 s9 s10 s11 s12 s13 s14 s15 d0 d1 d2 d3 d4 d5 d6 d7 d8 d9 d10 d11 d12 d13 d14 d15 : UInt8) {v : Value} {l : List UInt8} (hv : SliceIs w M v l) (hM : M ≤ w.heap.size) :
    Calls Ybad.prog 3 #[.int .u8 sk, arr16 s0 s1 s2 s3 s4 s5 s6 s7 s8 s9 s10 s11 s12 s13 s14 s15, .int .u8 dk, arr16 d0 d1 d2 d3 d4 d5 d6 d7 d8 d9 d10 d11 d12 d13 d14 d15, v] w fun e w' => e = .returned (.bool true) ∧ Below w.heap.size w w' := by
  have HV := hide hv
  have HZ := hide zs
  obtain ⟨a, c, rfl, hc1, hc2, _⟩ := hv
  clear zs
  unfold maxLen at hc2
  have AS := fun (W : World) (z : Zs W N p4 p6) => mk_any z sk hsk s0 s1 s2 s3 s4 s5 s6 s7 s8 s9 s10 s11 s12 s13 s14 s15
  have AD := fun (W : World) (z : Zs W N p4 p6) => mk_any z dk hdk d0 d1 d2 d3 d4 d5 d6 d7 d8 d9 d10 d11 d12 d13 d14 d15
  have HAS := hide AS
  have HAD := hide AD
  clear AS AD
  unfold arr16 at HAS HAD ⊢
  go_enter Ybad.func3, Ybad.ntmps3
  go_upto_region 1 with fail
  obtain ⟨hsz, hbel, hb0, hb1⟩ := alloc2 w (Obj.cells #[.int .u8 s0.toNat, .int .u8 s1.toNat, .int .u8 s2.toNat, .int .u8 s3.toNat, .int .u8 s4.toNat, .int .u8 s5.toNat, .int .u8 s6.toNat, .int .u8 s7.toNat, .int .u8 s8.toNat, .int .u8 s9.toNat, .int .u8 s10.toNat, .int .u8 s11.toNat, .int .u8 s12.toNat, .int .u8 s13.toNat, .int .u8 s14.toNat, .int .u8 s15.toNat] 22) (Obj.cells #[.int .u8 d0.toNat, .int .u8 d1.toNat, .int .u8 d2.toNat, .int .u8 d3.toNat, .int .u8 d4.toNat, .int .u8 d5.toNat, .int .u8 d6.toNat, .int .u8 d7.toNat, .int .u8 d8.toNat, .int .u8 d9.toNat, .int .u8 d10.toNat, .int .u8 d11.toNat, .int .u8 d12.toNat, .int .u8 d13.toNat, .int .u8 d14.toNat, .int .u8 d15.toNat] 22)
  generalize (w.alloc (Obj.cells #[.int .u8 s0.toNat, .int .u8 s1.toNat, .int .u8 s2.toNat, .int .u8 s3.toNat, .int .u8 s4.toNat, .int .u8 s5.toNat, .int .u8 s6.toNat, .int .u8 s7.toNat, .int .u8 s8.toNat, .int .u8 s9.toNat, .int .u8 s10.toNat, .int .u8 s11.toNat, .int .u8 s12.toNat, .int .u8 s13.toNat, .int .u8 s14.toNat, .int .u8 s15.toNat] 22)).alloc (Obj.cells #[.int .u8 d0.toNat, .int .u8 d1.toNat, .int .u8 d2.toNat, .int .u8 d3.toNat, .int .u8 d4.toNat, .int .u8 d5.toNat, .int .u8 d6.toNat, .int .u8 d7.toNat, .int .u8 d8.toNat, .int .u8 d9.toNat, .int .u8 d10.toNat, .int .u8 d11.toNat, .int .u8 d12.toNat, .int .u8 d13.toNat, .int .u8 d14.toNat, .int .u8 d15.toNat] 22) = W at *
  have BS := Buf.fresh (l := [s0, s1, s2, s3, s4, s5, s6, s7, s8, s9, s10, s11, s12, s13, s14, s15]) hb0
  have BD := Buf.fresh (l := [d0, d1, d2, d3, d4, d5, d6, d7, d8, d9, d10, d11, d12, d13, d14, d15]) hb1
  clear hb0 hb1
  generalize Value.agg #[.int .u8 s0.toNat, .int .u8 s1.toNat, .int .u8 s2.toNat, .int .u8 s3.toNat, .int .u8 s4.toNat, .int .u8 s5.toNat, .int .u8 s6.toNat, .int .u8 s7.toNat, .int .u8 s8.toNat, .int .u8 s9.toNat, .int .u8 s10.toNat, .int .u8 s11.toNat, .int .u8 s12.toNat, .int .u8 s13.toNat, .int .u8 s14.toNat, .int .u8 s15.toNat] = V1
  generalize Value.agg #[.int .u8 d0.toNat, .int .u8 d1.toNat, .int .u8 d2.toNat, .int .u8 d3.toNat, .int .u8 d4.toNat, .int .u8 d5.toNat, .int .u8 d6.toNat, .int .u8 d7.toNat, .int .u8 d8.toNat, .int .u8 d9.toNat, .int .u8 d10.toNat, .int .u8 d11.toNat, .int .u8 d12.toNat, .int .u8 d13.toNat, .int .u8 d14.toNat, .int .u8 d15.toNat] = V2
  by_cases hl : 4096 < l.length
  · have hg : (4096 : Int) < (l.length : Int) := by omega
    go_wp2_with fail
    go_ret
    exact ⟨rfl, hbel⟩
  · have hg : ¬ (4096 : Int) < (l.length : Int) := by omega
    have hg2 : (l.length : Int) ≤ 4096 := by omega
    have x0 : W.cell? ⟨w.heap.size, 0, none⟩ = some (.int .u8 s0.toNat) := BS.at rfl
    have x1 : W.cell? ⟨w.heap.size, 1, none⟩ = some (.int .u8 s1.toNat) := BS.at rfl
    have x2 : W.cell? ⟨w.heap.size, 2, none⟩ = some (.int .u8 s2.toNat) := BS.at rfl
    have x3 : W.cell? ⟨w.heap.size, 3, none⟩ = some (.int .u8 s3.toNat) := BS.at rfl
    have x4 : W.cell? ⟨w.heap.size, 4, none⟩ = some (.int .u8 s4.toNat) := BS.at rfl
    have x5 : W.cell? ⟨w.heap.size, 5, none⟩ = some (.int .u8 s5.toNat) := BS.at rfl
    have x6 : W.cell? ⟨w.heap.size, 6, none⟩ = some (.int .u8 s6.toNat) := BS.at rfl
    have x7 : W.cell? ⟨w.heap.size, 7, none⟩ = some (.int .u8 s7.toNat) := BS.at rfl
    have x8 : W.cell? ⟨w.heap.size, 8, none⟩ = some (.int .u8 s8.toNat) := BS.at rfl
    have x9 : W.cell? ⟨w.heap.size, 9, none⟩ = some (.int .u8 s9.toNat) := BS.at rfl
    have x10 : W.cell? ⟨w.heap.size, 10, none⟩ = some (.int .u8 s10.toNat) := BS.at rfl
    have x11 : W.cell? ⟨w.heap.size, 11, none⟩ = some (.int .u8 s11.toNat) := BS.at rfl
    have x12 : W.cell? ⟨w.heap.size, 12, none⟩ = some (.int .u8 s12.toNat) := BS.at rfl
    have x13 : W.cell? ⟨w.heap.size, 13, none⟩ = some (.int .u8 s13.toNat) := BS.at rfl
    have x14 : W.cell? ⟨w.heap.size, 14, none⟩ = some (.int .u8 s14.toNat) := BS.at rfl
    have x15 : W.cell? ⟨w.heap.size, 15, none⟩ = some (.int .u8 s15.toNat) := BS.at rfl
    go_wp2_with fail
    refine (HAS.out W (HZ.out.up (fun b hb => hbel.block b (by have := HZ.out.le; omega)) hbel.size)).mono ?_
    rintro e w1 ⟨hi, lo, z, sv, sl, rfl, hA, hS, B1⟩
    clear x0 x1 x2 x3 x4 x5 x6 x7 x8 x9 x10 x11 x12 x13 x14 x15
    go_upto_region 4 with fail
    obtain ⟨t1, t2, t3⟩ := alloc1' w1 (Obj.cells #[.int .u64 hi, .int .u64 lo, .pointer z] 31)
    generalize w1.alloc (Obj.cells #[.int .u64 hi, .int .u64 lo, .pointer z] 31) = W1 at *
    have HS1 := hide (hS.up (fun b hb => t2.block b hb))
    have T1 : Below (w.heap.size + 2) W W1 := by rw [hsz] at B1; exact B1.trans (t2.mono (by have := B1.size; omega))
    have U1 : Below w.heap.size w W1 := hbel.trans (T1.mono (by omega))
    have k1 : w.heap.size + 2 ≤ w1.heap.size := by have := B1.size; omega
    have BD1 := BD.of_block (T1.block _ (by omega))
    have x0 : W1.cell? ⟨w.heap.size + 1, 0, none⟩ = some (.int .u8 d0.toNat) := BD1.at rfl
    have x1 : W1.cell? ⟨w.heap.size + 1, 1, none⟩ = some (.int .u8 d1.toNat) := BD1.at rfl
    have x2 : W1.cell? ⟨w.heap.size + 1, 2, none⟩ = some (.int .u8 d2.toNat) := BD1.at rfl
    have x3 : W1.cell? ⟨w.heap.size + 1, 3, none⟩ = some (.int .u8 d3.toNat) := BD1.at rfl
    have x4 : W1.cell? ⟨w.heap.size + 1, 4, none⟩ = some (.int .u8 d4.toNat) := BD1.at rfl
    have x5 : W1.cell? ⟨w.heap.size + 1, 5, none⟩ = some (.int .u8 d5.toNat) := BD1.at rfl
    have x6 : W1.cell? ⟨w.heap.size + 1, 6, none⟩ = some (.int .u8 d6.toNat) := BD1.at rfl
    have x7 : W1.cell? ⟨w.heap.size + 1, 7, none⟩ = some (.int .u8 d7.toNat) := BD1.at rfl
    have x8 : W1.cell? ⟨w.heap.size + 1, 8, none⟩ = some (.int .u8 d8.toNat) := BD1.at rfl
    have x9 : W1.cell? ⟨w.heap.size + 1, 9, none⟩ = some (.int .u8 d9.toNat) := BD1.at rfl
    have x10 : W1.cell? ⟨w.heap.size + 1, 10, none⟩ = some (.int .u8 d10.toNat) := BD1.at rfl
    have x11 : W1.cell? ⟨w.heap.size + 1, 11, none⟩ = some (.int .u8 d11.toNat) := BD1.at rfl
    have x12 : W1.cell? ⟨w.heap.size + 1, 12, none⟩ = some (.int .u8 d12.toNat) := BD1.at rfl
    have x13 : W1.cell? ⟨w.heap.size + 1, 13, none⟩ = some (.int .u8 d13.toNat) := BD1.at rfl
    have x14 : W1.cell? ⟨w.heap.size + 1, 14, none⟩ = some (.int .u8 d14.toNat) := BD1.at rfl
    have x15 : W1.cell? ⟨w.heap.size + 1, 15, none⟩ = some (.int .u8 d15.toNat) := BD1.at rfl
    clear B1 t2 BD BS HAS hbel hS
    go_wp2_with fail
    refine (HAD.out W1 (HZ.out.up (fun b hb => U1.block b (by have := HZ.out.le; omega)) U1.size)).mono ?_
    rintro e w2 ⟨hi', lo', z', sv', dl, rfl, hA', hS', B2⟩
    clear x0 x1 x2 x3 x4 x5 x6 x7 x8 x9 x10 x11 x12 x13 x14 x15 HAD BD1
    go_upto_region 6 with fail
    generalize Value.agg #[.int .u8 s0.toNat, .int .u8 s1.toNat, .int .u8 s2.toNat, .int .u8 s3.toNat, .int .u8 s4.toNat, .int .u8 s5.toNat, .int .u8 s6.toNat, .int .u8 s7.toNat, .int .u8 s8.toNat, .int .u8 s9.toNat, .int .u8 s10.toNat, .int .u8 s11.toNat, .int .u8 s12.toNat, .int .u8 s13.toNat, .int .u8 s14.toNat, .int .u8 s15.toNat] = V4
    generalize Value.agg #[.int .u8 d0.toNat, .int .u8 d1.toNat, .int .u8 d2.toNat, .int .u8 d3.toNat, .int .u8 d4.toNat, .int .u8 d5.toNat, .int .u8 d6.toNat, .int .u8 d7.toNat, .int .u8 d8.toNat, .int .u8 d9.toNat, .int .u8 d10.toNat, .int .u8 d11.toNat, .int .u8 d12.toNat, .int .u8 d13.toNat, .int .u8 d14.toNat, .int .u8 d15.toNat] = V5
    obtain ⟨m1, m2, m3⟩ := alloc1' w2 (Obj.cells #[.int .u64 hi', .int .u64 lo', .pointer z'] 31)
    generalize w2.alloc (Obj.cells #[.int .u64 hi', .int .u64 lo', .pointer z'] 31) = W2 at *
    rw [t1] at B2
    have T2 : Below (w1.heap.size + 1) W1 W2 := B2.trans (m2.mono (by have := B2.size; omega))
    have k2 : w1.heap.size + 1 ≤ w2.heap.size := by have := B2.size; omega
    have U2 : Below w.heap.size w W2 := U1.trans (T2.mono (by omega))
    have e4 := (T2.block w1.heap.size (by omega)).trans t3
    have f4 := m3
    have C1 := hide (asum_any 0 (HS1.out.up (W := W2) (fun b hb => T2.block b (by omega))) (by have := hA.length; omega))
    have C2 := hide (asum_any (words sl) (hS'.up (W := W2) (fun b hb => m2.block b hb)) (by have := hA'.length; omega))
    have C3 := hide (aadd_any (words sl + words dl) 17 W2 (by decide))
    have C4 := hide (aadd_any (words sl + words dl + 17) l.length W2 (by omega))
    have SV := HV.out.up (W := W2) (fun b hb => U2.block b (by omega))
    have C5 := hide (asum_any (words sl + words dl + 17 + l.length) SV (by omega))
    have HU := hide (udp_any (HZ.out.up (fun b hb => U2.block b (by have := HZ.out.le; omega)) U2.size) hA hA' SV (by have := U2.size; omega) (by omega))
    rw [Nat.zero_add, foldN_small (Nat.zero_le _)] at C1
    have fb1 := foldN_le (words sl)
    have fb2 := foldN_le (words sl + words dl)
    have fb3 := foldN_le (words sl + words dl + 17)
    have fb4 := foldN_le (words sl + words dl + 17 + l.length)
    have fb := foldN_le (words sl + words dl + 17 + l.length + words l)
    have hF : Hid (chk (words sl + words dl + 17 + l.length + words l) = if foldN (words sl + words dl + 17 + l.length + words l) = 65535 then 65535 else 65535 - foldN (words sl + words dl + 17 + l.length + words l)) := rfl
    generalize chk (words sl + words dl + 17 + l.length + words l) = K at *
    generalize foldN (words sl + words dl + 17 + l.length + words l) = F at *
    generalize foldN (words sl + words dl + 17 + l.length) = F4 at *
    generalize foldN (words sl + words dl + 17) = F3 at *
    generalize foldN (words sl + words dl) = F2 at *
    generalize foldN (words sl) = F1 at *
    clear hA hA' HS1 hS' SV HV HZ B2 m2 T1 T2 U1
    go_wp2_with fail
    refine C1.out.mono ?_
    rintro e w3 ⟨rfl, rfl⟩
    go_wp2_with fail
    refine C2.out.mono ?_
    rintro e w3 ⟨rfl, rfl⟩
    go_wp2_with fail
    refine C3.out.mono ?_
    rintro e w3 ⟨rfl, rfl⟩
    go_wp2_with fail
    refine C4.out.mono ?_
    rintro e w3 ⟨rfl, rfl⟩
    go_wp2_with fail
    refine C5.out.mono ?_
    rintro e w3 ⟨rfl, rfl⟩
    clear C1 C2 C3 C4 C5
    have x0 : w3.cell? ⟨w1.heap.size, 0, none⟩ = some (.int .u64 hi) := by simp [World.cell?, e4]
    have x1 : w3.cell? ⟨w1.heap.size, 1, none⟩ = some (.int .u64 lo) := by simp [World.cell?, e4]
    have x2 : w3.cell? ⟨w1.heap.size, 2, none⟩ = some (.pointer z) := by simp [World.cell?, e4]
    have y0 : w3.cell? ⟨w2.heap.size, 0, none⟩ = some (.int .u64 hi') := by simp [World.cell?, f4]
    have y1 : w3.cell? ⟨w2.heap.size, 1, none⟩ = some (.int .u64 lo') := by simp [World.cell?, f4]
    have y2 : w3.cell? ⟨w2.heap.size, 2, none⟩ = some (.pointer z') := by simp [World.cell?, f4]
    obtain ⟨C, hC⟩ : ∃ C, C + F = 65535 := ⟨65535 - F, by omega⟩
    have hq := not16 F C hC
    by_cases h0 : C = 0
    · subst h0
      have hK : K = 65535 := by have := hF.out; rw [this, if_pos (by omega)]
      subst hK
      go_wp2_with fail
      refine HU.out.mono ?_
      rintro e w4 ⟨rfl, B4⟩
      go_wp2_with fail
      go_ret
      exact ⟨rfl, U2.trans (B4.mono U2.size)⟩
    · have hK : K = C := by have := hF.out; rw [this, if_neg (by omega)]; omega
      subst hK
      have hcz : ((K : Int) == 0) = false := by simpa using h0
      go_wp2_with fail
      refine HU.out.mono ?_
      rintro e w4 ⟨rfl, B4⟩
      go_wp2_with fail
      go_ret
      exact ⟨rfl, U2.trans (B4.mono U2.size)⟩
end Go.Proofs.YbulkdcggDoor
