/-
  THE WALK of LawS5180AVerify.
-/
import Derived.Test.YbulkdcggDoorMk6
namespace Go.Proofs.YbulkdcggDoor
open Go.RowKit

theorem alloc1 (w : World) (o : Obj) : (w.alloc o).heap.size = w.heap.size + 1 ∧ Below w.heap.size w (w.alloc o) ∧ (w.alloc o).heap[w.heap.size]? = some o :=
  ⟨by simp, (Below.refl _ _).alloc (Nat.le_refl _) _, Array.getElem?_push_size⟩

set_option maxHeartbeats 6400000 in
set_option maxRecDepth 100000 in
theorem verify_any {w : World} {N M : Nat} {p4 p6 : Addr} (zs : Zs w N p4 p6) (sk dk : Nat) (hsk : sk < 256) (hdk : dk < 256) (s0 s1 s2 s3 s4 s5 s6 s7 s8 s9 s10 s11 s12 s13 s14 s15 d0 d1 d2 d3 d4 d5 d6 d7 d8 d9 d10 d11 d12 d13 d14 d15 h0 h1 h2 h3 h4 h5 : UInt8) {v : Value} {l : List UInt8} (hv : SliceIs w M v l) (hM : M ≤ w.heap.size) :
    Calls Ybad.prog 4 #[.int .u8 sk, arr16 s0 s1 s2 s3 s4 s5 s6 s7 s8 s9 s10 s11 s12 s13 s14 s15, .int .u8 dk, arr16 d0 d1 d2 d3 d4 d5 d6 d7 d8 d9 d10 d11 d12 d13 d14 d15, .agg #[.int .u8 h0.toNat, .int .u8 h1.toNat, .int .u8 h2.toNat, .int .u8 h3.toNat, .int .u8 h4.toNat, .int .u8 h5.toNat], v] w fun e w' => e = .returned (.bool true) ∧ Below w.heap.size w w' := by
  have HV := hide hv
  have HZ := hide zs
  obtain ⟨a, c, rfl, hc1, hc2, _⟩ := hv
  clear zs
  unfold maxLen at hc2
  have AS := fun (W : World) (z : Zs W N p4 p6) => mk_any z sk hsk s0 s1 s2 s3 s4 s5 s6 s7 s8 s9 s10 s11 s12 s13 s14 s15
  have AD := fun (W : World) (z : Zs W N p4 p6) => mk_any z dk hdk d0 d1 d2 d3 d4 d5 d6 d7 d8 d9 d10 d11 d12 d13 d14 d15
  have HAS := hide AS
  have HAD := hide AD
  clear AS AD
  unfold arr16 at HAS HAD ⊢
  go_enter Ybad.func4, Ybad.ntmps4
  go_upto_region 1 with fail
  obtain ⟨hsz, hbel, hb0, hb1, hb2⟩ := alloc3 w (Obj.cells #[.int .u8 s0.toNat, .int .u8 s1.toNat, .int .u8 s2.toNat, .int .u8 s3.toNat, .int .u8 s4.toNat, .int .u8 s5.toNat, .int .u8 s6.toNat, .int .u8 s7.toNat, .int .u8 s8.toNat, .int .u8 s9.toNat, .int .u8 s10.toNat, .int .u8 s11.toNat, .int .u8 s12.toNat, .int .u8 s13.toNat, .int .u8 s14.toNat, .int .u8 s15.toNat] 22) (Obj.cells #[.int .u8 d0.toNat, .int .u8 d1.toNat, .int .u8 d2.toNat, .int .u8 d3.toNat, .int .u8 d4.toNat, .int .u8 d5.toNat, .int .u8 d6.toNat, .int .u8 d7.toNat, .int .u8 d8.toNat, .int .u8 d9.toNat, .int .u8 d10.toNat, .int .u8 d11.toNat, .int .u8 d12.toNat, .int .u8 d13.toNat, .int .u8 d14.toNat, .int .u8 d15.toNat] 22) (Obj.cells #[.int .u8 h0.toNat, .int .u8 h1.toNat, .int .u8 h2.toNat, .int .u8 h3.toNat, .int .u8 h4.toNat, .int .u8 h5.toNat] 40)
  generalize ((w.alloc (Obj.cells #[.int .u8 s0.toNat, .int .u8 s1.toNat, .int .u8 s2.toNat, .int .u8 s3.toNat, .int .u8 s4.toNat, .int .u8 s5.toNat, .int .u8 s6.toNat, .int .u8 s7.toNat, .int .u8 s8.toNat, .int .u8 s9.toNat, .int .u8 s10.toNat, .int .u8 s11.toNat, .int .u8 s12.toNat, .int .u8 s13.toNat, .int .u8 s14.toNat, .int .u8 s15.toNat] 22)).alloc (Obj.cells #[.int .u8 d0.toNat, .int .u8 d1.toNat, .int .u8 d2.toNat, .int .u8 d3.toNat, .int .u8 d4.toNat, .int .u8 d5.toNat, .int .u8 d6.toNat, .int .u8 d7.toNat, .int .u8 d8.toNat, .int .u8 d9.toNat, .int .u8 d10.toNat, .int .u8 d11.toNat, .int .u8 d12.toNat, .int .u8 d13.toNat, .int .u8 d14.toNat, .int .u8 d15.toNat] 22)).alloc (Obj.cells #[.int .u8 h0.toNat, .int .u8 h1.toNat, .int .u8 h2.toNat, .int .u8 h3.toNat, .int .u8 h4.toNat, .int .u8 h5.toNat] 40) = W at *
  have BS := Buf.fresh (l := [s0, s1, s2, s3, s4, s5, s6, s7, s8, s9, s10, s11, s12, s13, s14, s15]) hb0
  have BD := Buf.fresh (l := [d0, d1, d2, d3, d4, d5, d6, d7, d8, d9, d10, d11, d12, d13, d14, d15]) hb1
  have BH := Buf.fresh (l := [h0, h1, h2, h3, h4, h5]) hb2
  clear hb0 hb1 hb2
  generalize Value.agg #[.int .u8 s0.toNat, .int .u8 s1.toNat, .int .u8 s2.toNat, .int .u8 s3.toNat, .int .u8 s4.toNat, .int .u8 s5.toNat, .int .u8 s6.toNat, .int .u8 s7.toNat, .int .u8 s8.toNat, .int .u8 s9.toNat, .int .u8 s10.toNat, .int .u8 s11.toNat, .int .u8 s12.toNat, .int .u8 s13.toNat, .int .u8 s14.toNat, .int .u8 s15.toNat] = V1
  generalize Value.agg #[.int .u8 d0.toNat, .int .u8 d1.toNat, .int .u8 d2.toNat, .int .u8 d3.toNat, .int .u8 d4.toNat, .int .u8 d5.toNat, .int .u8 d6.toNat, .int .u8 d7.toNat, .int .u8 d8.toNat, .int .u8 d9.toNat, .int .u8 d10.toNat, .int .u8 d11.toNat, .int .u8 d12.toNat, .int .u8 d13.toNat, .int .u8 d14.toNat, .int .u8 d15.toNat] = V2
  generalize Value.agg #[.int .u8 h0.toNat, .int .u8 h1.toNat, .int .u8 h2.toNat, .int .u8 h3.toNat, .int .u8 h4.toNat, .int .u8 h5.toNat] = V3
  by_cases hl : 4096 < l.length
  · have hg : (4096 : Int) < (l.length : Int) := by omega
    go_wp2_with fail
    go_ret
    exact ⟨rfl, hbel⟩
  · have hg : ¬ (4096 : Int) < (l.length : Int) := by omega
    have hg2 : (l.length : Int) ≤ 4096 := by omega
    have x0 : W.cell? ⟨w.heap.size, 0, none⟩ = some (.int .u8 s0.toNat) := BS.at rfl
    have x1 : W.cell? ⟨w.heap.size, 1, none⟩ = some (.int .u8 s1.toNat) := BS.at rfl
    have x2 : W.cell? ⟨w.heap.size, 2, none⟩ = some (.int .u8 s2.toNat) := BS.at rfl
    have x3 : W.cell? ⟨w.heap.size, 3, none⟩ = some (.int .u8 s3.toNat) := BS.at rfl
    have x4 : W.cell? ⟨w.heap.size, 4, none⟩ = some (.int .u8 s4.toNat) := BS.at rfl
    have x5 : W.cell? ⟨w.heap.size, 5, none⟩ = some (.int .u8 s5.toNat) := BS.at rfl
    have x6 : W.cell? ⟨w.heap.size, 6, none⟩ = some (.int .u8 s6.toNat) := BS.at rfl
    have x7 : W.cell? ⟨w.heap.size, 7, none⟩ = some (.int .u8 s7.toNat) := BS.at rfl
    have x8 : W.cell? ⟨w.heap.size, 8, none⟩ = some (.int .u8 s8.toNat) := BS.at rfl
    have x9 : W.cell? ⟨w.heap.size, 9, none⟩ = some (.int .u8 s9.toNat) := BS.at rfl
    have x10 : W.cell? ⟨w.heap.size, 10, none⟩ = some (.int .u8 s10.toNat) := BS.at rfl
    have x11 : W.cell? ⟨w.heap.size, 11, none⟩ = some (.int .u8 s11.toNat) := BS.at rfl
    have x12 : W.cell? ⟨w.heap.size, 12, none⟩ = some (.int .u8 s12.toNat) := BS.at rfl
    have x13 : W.cell? ⟨w.heap.size, 13, none⟩ = some (.int .u8 s13.toNat) := BS.at rfl
    have x14 : W.cell? ⟨w.heap.size, 14, none⟩ = some (.int .u8 s14.toNat) := BS.at rfl
    have x15 : W.cell? ⟨w.heap.size, 15, none⟩ = some (.int .u8 s15.toNat) := BS.at rfl
    go_wp2_with fail
    refine (HAS.out W (HZ.out.up (fun b hb => hbel.block b (by have := HZ.out.le; omega)) hbel.size)).mono ?_
    rintro e w1 ⟨hi, lo, z, sv, sl, rfl, hA, _, B1⟩
    clear x0 x1 x2 x3 x4 x5 x6 x7 x8 x9 x10 x11 x12 x13 x14 x15
    go_upto_region 4 with fail
    obtain ⟨t1, t2, t3⟩ := alloc1 w1 (Obj.cells #[.int .u64 hi, .int .u64 lo, .pointer z] 31)
    generalize w1.alloc (Obj.cells #[.int .u64 hi, .int .u64 lo, .pointer z] 31) = W1 at *
    have T1 : Below (w.heap.size + 3) W W1 := by rw [hsz] at B1; exact B1.trans (t2.mono (by have := B1.size; omega))
    have U1 : Below w.heap.size w W1 := hbel.trans (T1.mono (by omega))
    have k1 : w.heap.size + 3 ≤ w1.heap.size := by have := B1.size; omega
    have BD1 := BD.of_block (T1.block _ (by omega))
    have x0 : W1.cell? ⟨w.heap.size + 1, 0, none⟩ = some (.int .u8 d0.toNat) := BD1.at rfl
    have x1 : W1.cell? ⟨w.heap.size + 1, 1, none⟩ = some (.int .u8 d1.toNat) := BD1.at rfl
    have x2 : W1.cell? ⟨w.heap.size + 1, 2, none⟩ = some (.int .u8 d2.toNat) := BD1.at rfl
    have x3 : W1.cell? ⟨w.heap.size + 1, 3, none⟩ = some (.int .u8 d3.toNat) := BD1.at rfl
    have x4 : W1.cell? ⟨w.heap.size + 1, 4, none⟩ = some (.int .u8 d4.toNat) := BD1.at rfl
    have x5 : W1.cell? ⟨w.heap.size + 1, 5, none⟩ = some (.int .u8 d5.toNat) := BD1.at rfl
    have x6 : W1.cell? ⟨w.heap.size + 1, 6, none⟩ = some (.int .u8 d6.toNat) := BD1.at rfl
    have x7 : W1.cell? ⟨w.heap.size + 1, 7, none⟩ = some (.int .u8 d7.toNat) := BD1.at rfl
    have x8 : W1.cell? ⟨w.heap.size + 1, 8, none⟩ = some (.int .u8 d8.toNat) := BD1.at rfl
    have x9 : W1.cell? ⟨w.heap.size + 1, 9, none⟩ = some (.int .u8 d9.toNat) := BD1.at rfl
    have x10 : W1.cell? ⟨w.heap.size + 1, 10, none⟩ = some (.int .u8 d10.toNat) := BD1.at rfl
    have x11 : W1.cell? ⟨w.heap.size + 1, 11, none⟩ = some (.int .u8 d11.toNat) := BD1.at rfl
    have x12 : W1.cell? ⟨w.heap.size + 1, 12, none⟩ = some (.int .u8 d12.toNat) := BD1.at rfl
    have x13 : W1.cell? ⟨w.heap.size + 1, 13, none⟩ = some (.int .u8 d13.toNat) := BD1.at rfl
    have x14 : W1.cell? ⟨w.heap.size + 1, 14, none⟩ = some (.int .u8 d14.toNat) := BD1.at rfl
    have x15 : W1.cell? ⟨w.heap.size + 1, 15, none⟩ = some (.int .u8 d15.toNat) := BD1.at rfl
    clear B1 t2 BD BS HAS hbel
    go_wp2_with fail
    refine (HAD.out W1 (HZ.out.up (fun b hb => U1.block b (by have := HZ.out.le; omega)) U1.size)).mono ?_
    rintro e w2 ⟨hi', lo', z', sv', dl, rfl, hA', _, B2⟩
    clear x0 x1 x2 x3 x4 x5 x6 x7 x8 x9 x10 x11 x12 x13 x14 x15 HAD BD1
    have hmk : ∀ W : World, (Instr.makeSlice 23 (.int .i64 (8 + (l.length : Int))) (.int .i64 (8 + (l.length : Int)))).run Ybad.prog W = .ok (.slice (some ⟨W.heap.size, 0, none⟩) (8 + l.length) (8 + l.length)) (W.alloc (.cells (madeCells #[.int .u8 0] (8 + l.length)) 5)) := fun W => by
      rw [show (8 + (l.length : Int)) = ((8 + l.length : Nat) : Int) by omega]
      exact run_make_row' (P := Ybad.prog) 23 5 (.int .u8 0) 1 Ybad.underlying23 info5 rfl .i64 .i64 (8 + l.length) (by omega) (by omega) W
    go_upto_region 6 with fail
    generalize Value.agg #[.int .u8 s0.toNat, .int .u8 s1.toNat, .int .u8 s2.toNat, .int .u8 s3.toNat, .int .u8 s4.toNat, .int .u8 s5.toNat, .int .u8 s6.toNat, .int .u8 s7.toNat, .int .u8 s8.toNat, .int .u8 s9.toNat, .int .u8 s10.toNat, .int .u8 s11.toNat, .int .u8 s12.toNat, .int .u8 s13.toNat, .int .u8 s14.toNat, .int .u8 s15.toNat] = V4
    generalize Value.agg #[.int .u8 d0.toNat, .int .u8 d1.toNat, .int .u8 d2.toNat, .int .u8 d3.toNat, .int .u8 d4.toNat, .int .u8 d5.toNat, .int .u8 d6.toNat, .int .u8 d7.toNat, .int .u8 d8.toNat, .int .u8 d9.toNat, .int .u8 d10.toNat, .int .u8 d11.toNat, .int .u8 d12.toNat, .int .u8 d13.toNat, .int .u8 d14.toNat, .int .u8 d15.toNat] = V5
    simp only [Nat.add_assoc, Nat.reduceAdd]
    obtain ⟨m1, m2, m3, m4⟩ := alloc2 w2 (Obj.cells #[.int .u64 hi', .int .u64 lo', .pointer z'] 31) (Obj.cells (madeCells #[.int .u8 0] (8 + l.length)) 5)
    generalize (w2.alloc (Obj.cells #[.int .u64 hi', .int .u64 lo', .pointer z'] 31)).alloc (Obj.cells (madeCells #[.int .u8 0] (8 + l.length)) 5) = W2 at *
    rw [t1] at B2
    have T2 : Below (w1.heap.size + 1) W1 W2 := B2.trans (m2.mono (by have := B2.size; omega))
    have k2 : w1.heap.size + 1 ≤ w2.heap.size := by have := B2.size; omega
    have U2 : Below w.heap.size w W2 := U1.trans (T2.mono (by omega))
    have B0 : Buf W2 (w2.heap.size + 1) ([] ++ ([0, 0, 0, 0, 0, 0] ++ (0 :: 0 :: List.replicate l.length 0))) := by
      have q := Buf.zeros m4
      rw [Nat.add_comm 8] at q
      exact q
    have BH2 := BH.of_block ((T2.block (w.heap.size + 2) (by omega)).trans (T1.block _ (by omega)))
    have t32 := (T2.block w1.heap.size (by omega)).trans t3
    have B0d : Buf W2.drew (w2.heap.size + 1) ([] ++ ([0, 0, 0, 0, 0, 0] ++ (0 :: 0 :: List.replicate l.length 0))) := B0.of_block rfl
    have BH2d : Buf W2.drew (w.heap.size + 2) [h0, h1, h2, h3, h4, h5] := BH2.of_block rfl
    have hcopy := run_copy_buf (o := 0) (dLen := 6) (dCap := 8 + l.length) (g' := w.heap.size + 2) (o' := 0) (sLen := 6) (sCap := 6) (ty := 3) (l := [h0, h1, h2, h3, h4, h5]) B0d rfl rfl rfl (fun j hj => by rw [Nat.zero_add]; exact BH2d.cell j hj)
    have B3 := Buf.put (b' := [h0, h1, h2, h3, h4, h5]) B0d rfl
    have T3 := Lib.below_setCells_w (B := w2.heap.size + 1) (Nat.le_refl _) (Lib.byteCells [h0, h1, h2, h3, h4, h5]) 0 W2.drew
    have z3 : (W2.drew.setCells (w2.heap.size + 1) 0 (Lib.byteCells [h0, h1, h2, h3, h4, h5])).heap.size = w2.heap.size + 2 := by rw [size_setCells]; exact m1
    simp only [List.length_nil] at B3
    simp only [List.length_cons, List.length_nil, Nat.reduceAdd] at hcopy
    generalize W2.drew.setCells (w2.heap.size + 1) 0 (Lib.byteCells [h0, h1, h2, h3, h4, h5]) = W3 at *
    have U3 : Below w.heap.size w W3 := U2.drew.trans (T3.mono (by omega))
    have t33 : W3.heap[w1.heap.size]? = _ := (T3.block w1.heap.size (by omega)).trans t32
    have m33 : W3.heap[w2.heap.size]? = _ := (T3.block w2.heap.size (by omega)).trans m3
    have g6 : (6 : Int) ≤ 8 + (l.length : Int) := by omega
    clear B0 B0d BH2 BH2d BH m3 m4 t3 t32 T1 T2 hmk B2 m2 T3 m1 U2 U1
    go_region
    clear hcopy g6
    by_cases hl0 : l = []
    · subst hl0
      have hcopyN : ∀ (W : World) (d a : Option Addr) (dc sc : Nat), (Builtin.copy_ #[23, 23] 3 #[.slice d 0 dc, .slice a 0 sc]).run Ybad.prog W = .ok (goInt 0) W := fun W d a dc sc => run_copy_none (P := Ybad.prog) W 23 23 3 5 d a 0 dc 0 sc Ybad.underlying23 size5 rfl
      go_upto_region 8 with fail
      have BL : Buf W3 (w2.heap.size + 1) ([h0, h1, h2, h3, h4, h5] ++ ([0, 0] ++ [])) := B3
      have S4 : Hid (∀ (W : World) (x y : UInt8), Buf W (w2.heap.size + 1) ([h0, h1, h2, h3, h4, h5] ++ ([x, y] ++ [])) → SliceIs W (w2.heap.size + 2) (.slice (some ⟨w2.heap.size + 1, 0, none⟩) (8 + ([] : List UInt8).length) (8 + ([] : List UInt8).length)) ([h0, h1, h2, h3, h4, h5] ++ ([x, y] ++ []))) := fun W x y h => h.slice (by omega) (by simp [maxLen])
      clear B3 hcopyN
      generalize W3 = W4 at *
      have U4 := U3
      have z4 := z3
      have t34 := t33
      have m34 := m33
      clear U3 z3 t33 m33
      have hlen : (([] : List UInt8)).length ≤ 4096 := by simp
      have e4 : W4.heap[w1.heap.size]? = _ := t34
      have f4 : W4.heap[w2.heap.size]? = _ := m34
      have x0 : W4.cell? ⟨w1.heap.size, 0, none⟩ = some (.int .u64 hi) := by simp [World.cell?, e4]
      have x1 : W4.cell? ⟨w1.heap.size, 1, none⟩ = some (.int .u64 lo) := by simp [World.cell?, e4]
      have x2 : W4.cell? ⟨w1.heap.size, 2, none⟩ = some (.pointer z) := by simp [World.cell?, e4]
      have y0 : W4.cell? ⟨w2.heap.size, 0, none⟩ = some (.int .u64 hi') := by simp [World.cell?, f4]
      have y1 : W4.cell? ⟨w2.heap.size, 1, none⟩ = some (.int .u64 lo') := by simp [World.cell?, f4]
      have y2 : W4.cell? ⟨w2.heap.size, 2, none⟩ = some (.pointer z') := by simp [World.cell?, f4]
      have h8 : ([h0, h1, h2, h3, h4, h5] ++ ([0, 0] ++ ([] : List UInt8))).length = 8 + (([] : List UInt8)).length := by simp; try omega
      have HU := hide (udp_any (HZ.out.up (fun b hb => U4.block b (by have := HZ.out.le; omega)) U4.size) hA hA' (S4.out W4 0 0 BL) (by omega) (by rw [h8]; omega))
      rw [h8] at HU
      have cb := chk_bounds (words sl + words dl + 17 + (8 + (([] : List UInt8)).length) + words ([h0, h1, h2, h3, h4, h5] ++ ([0, 0] ++ ([] : List UInt8))))
      obtain ⟨C, hC⟩ : ∃ C, C = chk (words sl + words dl + 17 + (8 + (([] : List UInt8)).length) + words ([h0, h1, h2, h3, h4, h5] ++ ([0, 0] ++ ([] : List UInt8)))) := ⟨_, rfl⟩
      rw [← hC] at HU cb
      have HC := hide hC
      obtain ⟨cb1, cb2⟩ := cb
      clear hC
      go_wp2_with fail
      refine HU.out.mono ?_
      rintro e w5 ⟨rfl, B5⟩
      clear x0 x1 x2 y0 y1 y2 HU
      rw [z4] at B5
      have BL5 := BL.of_block (B5.block (w2.heap.size + 1) (by omega))
      have U5 : Below w.heap.size w w5 := U4.trans (B5.mono (by omega))
      have e5 := (B5.block w1.heap.size (by omega)).trans e4
      have f5 := (B5.block w2.heap.size (by omega)).trans f4
      have z5 : w2.heap.size + 2 ≤ w5.heap.size := by have := B5.size; omega
      have hcz : ((C : Int) == 0) = false := by simpa using (by omega : C ≠ 0)
      have q6 := BL5.at (j := 6) (b := 0) rfl
      have q7 := BL5.at (j := 7) (b := 0) rfl
      have r6 := BL5.free 6
      have r7 := BL5.free 7
      have i6 : (6 : Int) < 8 + ((([] : List UInt8)).length : Int) := by omega
      have i7 : (7 : Int) < 8 + ((([] : List UInt8)).length : Int) := by omega
      have i6n : 6 < 8 + (([] : List UInt8)).length := by omega
      have i7n : 7 < 8 + (([] : List UInt8)).length := by omega
      go_upto_region 13 with fail
      obtain ⟨x, hx⟩ : ∃ x : UInt8, x.toNat = C / 256 := ⟨UInt8.ofNat (C / 256), by simp; omega⟩
      obtain ⟨y, hy⟩ : ∃ y : UInt8, y.toNat = C % 256 := ⟨UInt8.ofNat (C % 256), by simp⟩
      have eW : (w5.setCell ⟨w2.heap.size + 1, 6, none⟩ (.int .u8 ((C : Int) / 256))).setCell ⟨w2.heap.size + 1, 7, none⟩ (.int .u8 ((C : Int) % 256)) = w5.setCells (w2.heap.size + 1) 6 (Lib.byteCells [x, y]) := by
        have e1 : ((x.toNat : Nat) : Int) = (C : Int) / 256 := by omega
        have e2 : ((y.toNat : Nat) : Int) = (C : Int) % 256 := by omega
        simp only [Lib.byteCells, List.map, World.setCells, e1, e2]
      rw [eW]
      have B6 : Buf (w5.setCells (w2.heap.size + 1) 6 (Lib.byteCells [x, y])) (w2.heap.size + 1) ([h0, h1, h2, h3, h4, h5] ++ ([x, y] ++ ([] : List UInt8))) := Buf.put (a := [h0, h1, h2, h3, h4, h5]) (b := [0, 0]) (c := ([] : List UInt8)) (b' := [x, y]) BL5 rfl
      have T6 := Lib.below_setCells_w (B := w2.heap.size + 1) (Nat.le_refl _) (Lib.byteCells [x, y]) 6 w5
      have z6 : w2.heap.size + 2 ≤ (w5.setCells (w2.heap.size + 1) 6 (Lib.byteCells [x, y])).heap.size := by rw [size_setCells]; exact z5
      have U6 : Below w.heap.size w (w5.setCells (w2.heap.size + 1) 6 (Lib.byteCells [x, y])) := U5.trans (T6.mono (by omega))
      have e6 := (T6.block w1.heap.size (by omega)).trans e5
      have f6 := (T6.block w2.heap.size (by omega)).trans f5
      generalize w5.setCells (w2.heap.size + 1) 6 (Lib.byteCells [x, y]) = W6 at *
      have x0 : W6.cell? ⟨w1.heap.size, 0, none⟩ = some (.int .u64 hi) := by simp [World.cell?, e6]
      have x1 : W6.cell? ⟨w1.heap.size, 1, none⟩ = some (.int .u64 lo) := by simp [World.cell?, e6]
      have x2 : W6.cell? ⟨w1.heap.size, 2, none⟩ = some (.pointer z) := by simp [World.cell?, e6]
      have y0 : W6.cell? ⟨w2.heap.size, 0, none⟩ = some (.int .u64 hi') := by simp [World.cell?, f6]
      have y1 : W6.cell? ⟨w2.heap.size, 1, none⟩ = some (.int .u64 lo') := by simp [World.cell?, f6]
      have y2 : W6.cell? ⟨w2.heap.size, 2, none⟩ = some (.pointer z') := by simp [World.cell?, f6]
      have h8' : ([h0, h1, h2, h3, h4, h5] ++ ([x, y] ++ ([] : List UInt8))).length = 8 + (([] : List UInt8)).length := h8
      have HU := hide (udp_any (HZ.out.up (fun b hb => U6.block b (by have := HZ.out.le; omega)) U6.size) hA hA' (S4.out W6 x y B6) z6 (by rw [h8']; omega))
      have hw : words ([h0, h1, h2, h3, h4, h5] ++ ([x, y] ++ ([] : List UInt8))) = words ([h0, h1, h2, h3, h4, h5] ++ ([0, 0] ++ ([] : List UInt8))) + C := by
        have q := words_head h0 h1 h2 h3 h4 h5 x y ([] : List UInt8)
        rw [hx, hy, show C / 256 * 256 + C % 256 = C by omega] at q
        exact q
      rw [h8', hw, ← Nat.add_assoc, HC.out, chk_again (by omega)] at HU
      clear hw h8 h8' B6 BL5 BL q6 q7 r6 r7 hx hy eW e6 f6 e5 f5 e4 f4
      go_wp2_with fail
      refine HU.out.mono ?_
      rintro e w7 ⟨rfl, B7⟩
      have U7 := U6.trans (B7.mono U6.size)
      go_wp2_with fail
      go_ret
      exact ⟨rfl, U7⟩
    · obtain ⟨g0, o0, rfl, hg0, hcell⟩ := (by assumption : l ≠ [] → _) hl0
      have hpos : 0 < l.length := List.length_pos_iff.2 hl0
      have hne : ¬ (8 + l.length = 8) := by omega
      have g8 : (8 : Int) ≤ 8 + (l.length : Int) := by omega
      have B3' : Buf W3 (w2.heap.size + 1) (([h0, h1, h2, h3, h4, h5] ++ [0, 0]) ++ (List.replicate l.length 0 ++ [])) := by simpa using B3
      have hcopy := run_copy_buf (o := 8) (dLen := l.length) (dCap := l.length) (g' := g0) (o' := o0) (sLen := l.length) (sCap := c) (ty := 3) (l := l) B3' rfl (by simp) (by simp) (fun j hj => by rw [U3.cell (by simp only; omega)]; exact hcell j hj)
      have B4 := Buf.put (b' := l) B3' (by simp)
      have T4 := Lib.below_setCells_w (B := w2.heap.size + 1) (Nat.le_refl _) (Lib.byteCells l) 8 W3
      have z4 : (W3.setCells (w2.heap.size + 1) 8 (Lib.byteCells l)).heap.size = w2.heap.size + 2 := by rw [size_setCells]; exact z3
      have BL : Buf (W3.setCells (w2.heap.size + 1) 8 (Lib.byteCells l)) (w2.heap.size + 1) ([h0, h1, h2, h3, h4, h5] ++ ([0, 0] ++ l)) := by simpa using B4
      have U4 : Below w.heap.size w (W3.setCells (w2.heap.size + 1) 8 (Lib.byteCells l)) := U3.trans (T4.mono (by omega))
      have t34 := (T4.block w1.heap.size (by omega)).trans t33
      have m34 := (T4.block w2.heap.size (by omega)).trans m33
      generalize W3.setCells (w2.heap.size + 1) 8 (Lib.byteCells l) = W4 at *
      have S4 : Hid (∀ (W : World) (x y : UInt8), Buf W (w2.heap.size + 1) ([h0, h1, h2, h3, h4, h5] ++ ([x, y] ++ l)) → SliceIs W (w2.heap.size + 2) (.slice (some ⟨w2.heap.size + 1, 0, none⟩) (8 + l.length) (8 + l.length)) ([h0, h1, h2, h3, h4, h5] ++ ([x, y] ++ l))) := fun W x y h => by
        have q := h.slice (N := w2.heap.size + 2) (by omega) (by simp [maxLen]; omega)
        rwa [show ([h0, h1, h2, h3, h4, h5] ++ ([x, y] ++ l)).length = 8 + l.length by simp; omega] at q
      clear B3 B3' B4 T4 U3 z3 t33 m33
      go_upto_region 8 with fail
      have hlen : (l).length ≤ 4096 := by omega
      have e4 : W4.heap[w1.heap.size]? = _ := t34
      have f4 : W4.heap[w2.heap.size]? = _ := m34
      have x0 : W4.cell? ⟨w1.heap.size, 0, none⟩ = some (.int .u64 hi) := by simp [World.cell?, e4]
      have x1 : W4.cell? ⟨w1.heap.size, 1, none⟩ = some (.int .u64 lo) := by simp [World.cell?, e4]
      have x2 : W4.cell? ⟨w1.heap.size, 2, none⟩ = some (.pointer z) := by simp [World.cell?, e4]
      have y0 : W4.cell? ⟨w2.heap.size, 0, none⟩ = some (.int .u64 hi') := by simp [World.cell?, f4]
      have y1 : W4.cell? ⟨w2.heap.size, 1, none⟩ = some (.int .u64 lo') := by simp [World.cell?, f4]
      have y2 : W4.cell? ⟨w2.heap.size, 2, none⟩ = some (.pointer z') := by simp [World.cell?, f4]
      have h8 : ([h0, h1, h2, h3, h4, h5] ++ ([0, 0] ++ l)).length = 8 + (l).length := by simp; try omega
      have HU := hide (udp_any (HZ.out.up (fun b hb => U4.block b (by have := HZ.out.le; omega)) U4.size) hA hA' (S4.out W4 0 0 BL) (by omega) (by rw [h8]; omega))
      rw [h8] at HU
      have cb := chk_bounds (words sl + words dl + 17 + (8 + (l).length) + words ([h0, h1, h2, h3, h4, h5] ++ ([0, 0] ++ l)))
      obtain ⟨C, hC⟩ : ∃ C, C = chk (words sl + words dl + 17 + (8 + (l).length) + words ([h0, h1, h2, h3, h4, h5] ++ ([0, 0] ++ l))) := ⟨_, rfl⟩
      rw [← hC] at HU cb
      have HC := hide hC
      obtain ⟨cb1, cb2⟩ := cb
      clear hC
      go_wp2_with fail
      refine HU.out.mono ?_
      rintro e w5 ⟨rfl, B5⟩
      clear x0 x1 x2 y0 y1 y2 HU
      rw [z4] at B5
      have BL5 := BL.of_block (B5.block (w2.heap.size + 1) (by omega))
      have U5 : Below w.heap.size w w5 := U4.trans (B5.mono (by omega))
      have e5 := (B5.block w1.heap.size (by omega)).trans e4
      have f5 := (B5.block w2.heap.size (by omega)).trans f4
      have z5 : w2.heap.size + 2 ≤ w5.heap.size := by have := B5.size; omega
      have hcz : ((C : Int) == 0) = false := by simpa using (by omega : C ≠ 0)
      have q6 := BL5.at (j := 6) (b := 0) rfl
      have q7 := BL5.at (j := 7) (b := 0) rfl
      have r6 := BL5.free 6
      have r7 := BL5.free 7
      have i6 : (6 : Int) < 8 + ((l).length : Int) := by omega
      have i7 : (7 : Int) < 8 + ((l).length : Int) := by omega
      have i6n : 6 < 8 + (l).length := by omega
      have i7n : 7 < 8 + (l).length := by omega
      go_upto_region 13 with fail
      obtain ⟨x, hx⟩ : ∃ x : UInt8, x.toNat = C / 256 := ⟨UInt8.ofNat (C / 256), by simp; omega⟩
      obtain ⟨y, hy⟩ : ∃ y : UInt8, y.toNat = C % 256 := ⟨UInt8.ofNat (C % 256), by simp⟩
      have eW : (w5.setCell ⟨w2.heap.size + 1, 6, none⟩ (.int .u8 ((C : Int) / 256))).setCell ⟨w2.heap.size + 1, 7, none⟩ (.int .u8 ((C : Int) % 256)) = w5.setCells (w2.heap.size + 1) 6 (Lib.byteCells [x, y]) := by
        have e1 : ((x.toNat : Nat) : Int) = (C : Int) / 256 := by omega
        have e2 : ((y.toNat : Nat) : Int) = (C : Int) % 256 := by omega
        simp only [Lib.byteCells, List.map, World.setCells, e1, e2]
      rw [eW]
      have B6 : Buf (w5.setCells (w2.heap.size + 1) 6 (Lib.byteCells [x, y])) (w2.heap.size + 1) ([h0, h1, h2, h3, h4, h5] ++ ([x, y] ++ l)) := Buf.put (a := [h0, h1, h2, h3, h4, h5]) (b := [0, 0]) (c := l) (b' := [x, y]) BL5 rfl
      have T6 := Lib.below_setCells_w (B := w2.heap.size + 1) (Nat.le_refl _) (Lib.byteCells [x, y]) 6 w5
      have z6 : w2.heap.size + 2 ≤ (w5.setCells (w2.heap.size + 1) 6 (Lib.byteCells [x, y])).heap.size := by rw [size_setCells]; exact z5
      have U6 : Below w.heap.size w (w5.setCells (w2.heap.size + 1) 6 (Lib.byteCells [x, y])) := U5.trans (T6.mono (by omega))
      have e6 := (T6.block w1.heap.size (by omega)).trans e5
      have f6 := (T6.block w2.heap.size (by omega)).trans f5
      generalize w5.setCells (w2.heap.size + 1) 6 (Lib.byteCells [x, y]) = W6 at *
      have x0 : W6.cell? ⟨w1.heap.size, 0, none⟩ = some (.int .u64 hi) := by simp [World.cell?, e6]
      have x1 : W6.cell? ⟨w1.heap.size, 1, none⟩ = some (.int .u64 lo) := by simp [World.cell?, e6]
      have x2 : W6.cell? ⟨w1.heap.size, 2, none⟩ = some (.pointer z) := by simp [World.cell?, e6]
      have y0 : W6.cell? ⟨w2.heap.size, 0, none⟩ = some (.int .u64 hi') := by simp [World.cell?, f6]
      have y1 : W6.cell? ⟨w2.heap.size, 1, none⟩ = some (.int .u64 lo') := by simp [World.cell?, f6]
      have y2 : W6.cell? ⟨w2.heap.size, 2, none⟩ = some (.pointer z') := by simp [World.cell?, f6]
      have h8' : ([h0, h1, h2, h3, h4, h5] ++ ([x, y] ++ l)).length = 8 + (l).length := h8
      have HU := hide (udp_any (HZ.out.up (fun b hb => U6.block b (by have := HZ.out.le; omega)) U6.size) hA hA' (S4.out W6 x y B6) z6 (by rw [h8']; omega))
      have hw : words ([h0, h1, h2, h3, h4, h5] ++ ([x, y] ++ l)) = words ([h0, h1, h2, h3, h4, h5] ++ ([0, 0] ++ l)) + C := by
        have q := words_head h0 h1 h2 h3 h4 h5 x y l
        rw [hx, hy, show C / 256 * 256 + C % 256 = C by omega] at q
        exact q
      rw [h8', hw, ← Nat.add_assoc, HC.out, chk_again (by omega)] at HU
      clear hw h8 h8' B6 BL5 BL q6 q7 r6 r7 hx hy eW e6 f6 e5 f5 e4 f4
      go_wp2_with fail
      refine HU.out.mono ?_
      rintro e w7 ⟨rfl, B7⟩
      have U7 := U6.trans (B7.mono U6.size)
      go_wp2_with fail
      go_ret
      exact ⟨rfl, U7⟩
end Go.Proofs.YbulkdcggDoor
