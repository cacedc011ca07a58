/-
  THE WALK of New, the function itself.
-/
import Derived.Test.YbulkdcggFmtNew
namespace Go.Proofs.YbulkdcggFmt
open Go.RowKit

theorem clone_two {W : World} {q : Nat} {x y : UInt8} (B : Buf W q [x, y]) : Calls Ybaf.prog 13 #[.slice (some ⟨q, 0, none⟩) 2 2] W fun e w' => ∃ a c, e = .returned (.slice a 2 c) ∧ Below W.heap.size W w' := by
  refine (Ybaf.bytes_Clone_at ⟨q, 0, none⟩ 2 2 [(x.toNat : Int), (y.toNat : Int)] W rfl (by decide) (fun i hi => ?_)).mono ?_
  · rw [Addr.add_lit, Nat.zero_add]
    have : i = 0 ∨ i = 1 := by omega
    rcases this with rfl | rfl
    · exact B.at rfl
    · exact B.at rfl
  · rintro e w' ⟨v', rfl, h1, _, h2⟩
    rcases h1.2 with ⟨_, h⟩ | ⟨g, cap, cur, rfl, _⟩
    · cases h
    · exact ⟨_, _, rfl, h2⟩
theorem join_one {W : World} {q r : Nat} {l : List UInt8} (h : W.cell? ⟨q, 0, none⟩ = some (.slice (some ⟨r, 0, none⟩) l.length l.length)) (B : Buf W r l) (h0 : 0 < l.length) (hs : l.length ≤ 1000) : Calls Ybaf.prog 12 #[.slice (some ⟨q, 0, none⟩) 1 1, .slice none 0 0] W fun e w' => ∃ a c, e = .returned (.slice a l.length c) ∧ Below W.heap.size W w' := by
  refine (Ybaf.bytes_Join_one q 0 1 ⟨r, 0, none⟩ l.length l (.slice none 0 0) W h (fun i x hx => ?_) h0 (by omega)).mono ?_
  · rw [Addr.add_lit, Nat.zero_add]
    exact B.at hx
  · rintro e w' ⟨v', rfl, ⟨g, cap, zs, rfl, _⟩, h2⟩
    exact ⟨_, _, rfl, h2⟩

/-- what the contents hold -/
structure Cont (w : World) (q0 q1 q2 q3 : Nat) : Prop where
  c : w.cell? ⟨q1, 0, none⟩ = some (.slice (some ⟨q0, 0, none⟩) 176 176)
  b0 : Buf w q0 (List.replicate 176 0)
  b2 : Buf w q2 [0, 255]
  b3 : Buf w q3 [0, 0]
  l0 : q0 < w.heap.size
  l1 : q1 < w.heap.size
  l2 : q2 < w.heap.size
  l3 : q3 < w.heap.size
theorem Cont.up {w W : World} {q0 q1 q2 q3 : Nat} (h : Cont w q0 q1 q2 q3) (b : Below w.heap.size w W) : Cont W q0 q1 q2 q3 :=
  ⟨by rw [b.cell (by simpa using h.l1)]; exact h.c, h.b0.of_block (b.block _ h.l0), h.b2.of_block (b.block _ h.l2), h.b3.of_block (b.block _ h.l3), Nat.lt_of_lt_of_le h.l0 b.size, Nat.lt_of_lt_of_le h.l1 b.size, Nat.lt_of_lt_of_le h.l2 b.size, Nat.lt_of_lt_of_le h.l3 b.size⟩

set_option maxHeartbeats 6400000 in
set_option maxRecDepth 100000 in
theorem new_any {w : World} {q0 q1 q2 q3 : Nat} (hc : Cont w q0 q1 q2 q3) :
    Calls Ybaf.prog 4 #[.agg #[.slice (some ⟨q1, 0, none⟩) 1 1, .slice (some ⟨q2, 0, none⟩) 2 2, .slice (some ⟨q3, 0, none⟩) 2 2]] w fun e w' => ∃ s cb, e = .returned (.pointer (some ⟨cb, 0, none⟩)) ∧ Tree s cb w' ∧ Card s w' cb 0 (.slice none 0 0) ∧
      w'.cell? ⟨cb, 4, none⟩ = some (.pointer (some ⟨s.b2, 0, none⟩)) ∧ w'.cell? ⟨cb, 5, none⟩ = some (.pointer (some ⟨s.b3, 0, none⟩)) ∧ w.heap.size ≤ cb ∧ Below w.heap.size w w' := by
  go_enter Ybaf.func4, Ybaf.ntmps4
  go_upto_region 1 with fail
  obtain ⟨s0, bel0, hb0⟩ := alloc1 w (Obj.cells #[.slice (some ⟨q1, 0, none⟩) 1 1, .slice (some ⟨q2, 0, none⟩) 2 2, .slice (some ⟨q3, 0, none⟩) 2 2] 28)
  generalize w.alloc (Obj.cells #[.slice (some ⟨q1, 0, none⟩) 1 1, .slice (some ⟨q2, 0, none⟩) 2 2, .slice (some ⟨q3, 0, none⟩) 2 2] 28) = W0 at *
  have C0 := hc.up bel0
  have x0 : W0.cell? ⟨w.heap.size, 0, none⟩ = some (.slice (some ⟨q1, 0, none⟩) 1 1) := by simp [World.cell?, hb0]
  have x1 : W0.cell? ⟨w.heap.size, 1, none⟩ = some (.slice (some ⟨q2, 0, none⟩) 2 2) := by simp [World.cell?, hb0]
  have x2 : W0.cell? ⟨w.heap.size, 2, none⟩ = some (.slice (some ⟨q3, 0, none⟩) 2 2) := by simp [World.cell?, hb0]
  have x3 := C0.c
  have HC := hide C0
  have X0 := hide x0
  have X1 := hide x1
  have X2 := hide x2
  have hx : w.heap.size < W0.heap.size := by omega
  clear hc C0 hb0
  have S0 := hide s0
  clear s0
  generalize hn : w.heap.size = n at *
  have HN := hide hn
  clear hn
  go_upto_region 7 with fail
  go_loopg [38] 1 (fun g sl wr => ∃ i : Nat, sl = .int .i64 (i : Nat) ∧ i ≤ 1 ∧ g = 1 - i ∧ wr = W0)
  case atStart => exact ⟨0, rfl, by omega, rfl, rfl⟩
  case round =>
    obtain ⟨i, rfl, hi, hg, rfl⟩ := hrel
    have hcc : i = 0 ∨ i = 1 := by omega
    rcases hcc with rfl | rfl
    · go_wp2_with fail
      go_roundg (1 - 1)
      case measure => omega
      case rel => exact ⟨1, rfl, by omega, rfl, rfl⟩
    · go_upto_region 13 with fail
      obtain ⟨s1, bel1, hb1⟩ := alloc1 wr (Obj.cells #[.int .u16 16128, .int .u8 1, .pointer none, .slice none 0 0, .int .u8 0, .slice none 0 0, .int .i64 0, .int .i64 0, .int .i64 0] 44)
      generalize wr.alloc (Obj.cells #[.int .u16 16128, .int .u8 1, .pointer none, .slice none 0 0, .int .u8 0, .slice none 0 0, .int .i64 0, .int .i64 0, .int .i64 0] 44) = W1 at *
      have fm1 : FileB W1 wr.heap.size 16128 1 (.pointer none) (.slice none 0 0) 0 (.slice none 0 0) 0 0 := hb1
      have K1 := hide (addDF_any fm1 (Row.nil W1 W1.heap.size) (Nat.le_refl _) (by simp) 32528)
      clear x0 x1 x2 x3 hb1 fm1
      have hmt : wr.heap.size < W1.heap.size := by omega
      clear s1
      obtain ⟨m, hm⟩ : ∃ m, m = wr.heap.size := ⟨_, rfl⟩
      obtain ⟨t, ht⟩ : ∃ t, t = W1.heap.size := ⟨_, rfl⟩
      rw [← hm] at bel1 hmt hx ⊢
      rw [← hm, ← ht] at K1
      rw [← ht] at hmt
      have HM := hide hm
      have HTT := hide ht
      clear hm ht
      go_wp2_with fail
      refine K1.out.mono ?_
      rintro e W2 ⟨v0, rfl, ft, fm, ad⟩
      clear K1
      have hts := HTT.out
      have B2 : Below m wr W2 := bel1.trans (ad.bel _ (Nat.le_refl _) (by omega) (by omega))
      have r0 := ad.row
      have z2 := ad.size
      rw [← hts] at z2
      clear ad hts
      have lr0 : ∀ g, v0.ownBlock = some g → g < W2.heap.size := fun g hg => (r0.lt hg).2
      have C2 := HC.out.up (HM.out ▸ B2)
      have y0 : W2.cell? ⟨n, 0, none⟩ = some (.slice (some ⟨q1, 0, none⟩) 1 1) := by rw [B2.cell (by simpa using hx)]; exact X0.out
      have J := hide (join_one (l := List.replicate 176 0) (by rw [List.length_replicate]; exact C2.c) C2.b0 (by simp) (by simp))
      rw [List.length_replicate] at J
      clear C2
      go_wp2_with fail
      refine J.out.mono ?_
      rintro e W3 ⟨a2, e2, rfl, b3⟩
      have B3 : Below m wr W3 := B2.trans (b3.mono (by omega))
      have ft3 := ft.up (b3.block _ ft.lt)
      have fm3 := fm.up (b3.block _ fm.lt)
      have r03 := r0.up (fun g hg => b3.block g (r0.lt hg).2)
      have z3 := b3.size
      clear J y0 ft fm r0
      have K4 := hide (addEF_any ft3 (Row.nil W3 W3.heap.size) (Nat.le_refl _) (by simp) 28476 1 a2 176 e2 176)
      go_wp2_with fail
      refine K4.out.mono ?_
      rintro e W4 ⟨v1, rfl, fs, ft4, ad⟩
      clear K4
      have fm4 := fm3.up (ad.far _ fm3.lt (by omega) (by simp [Value.ownBlock]))
      have r04 := r03.up (fun g hg => ad.far g (r03.lt hg).2 (fun e => ft3.ne r03 (e ▸ hg)) (by simp [Value.ownBlock]))
      have r14 := ad.row
      have B4 : Below m wr W4 := B3.trans (ad.bel _ (by omega) (by omega) (by omega))
      have z4 := ad.size
      have lt3 := ft3.lt
      clear ad fm3 r03 b3 ft3
      have C4 := HC.out.up (HM.out ▸ B4)
      have y1 : W4.cell? ⟨n, 1, none⟩ = some (.slice (some ⟨q2, 0, none⟩) 2 2) := by rw [B4.cell (by simpa using hx)]; exact X1.out
      have J := hide (clone_two C4.b2)
      clear C4
      go_wp2_with fail
      refine J.out.mono ?_
      rintro e W5 ⟨a3, e3, rfl, b5⟩
      have B5 : Below m wr W5 := B4.trans (b5.mono (by omega))
      have ft5 := ft4.up (b5.block _ ft4.lt)
      have fm5 := fm4.up (b5.block _ fm4.lt)
      have fs5 := fs.up (b5.block _ fs.lt)
      have r05 := r04.up (fun g hg => b5.block g (r04.lt hg).2)
      have r15 := r14.up (fun g hg => b5.block g (r14.lt hg).2)
      have z5 := b5.size
      clear J y1 ft4 fm4 fs r04 r14 b5
      have K6 := hide (addEF_any ft5 r15 (by omega) (by simp) 28483 0 a3 2 e3 0)
      go_wp2_with fail
      refine K6.out.mono ?_
      rintro e W6 ⟨v1', rfl, fq, ft6, ad⟩
      clear K6
      have g0 : G0 wr m t W3.heap.size W5.heap.size t W3.heap.size v0 v1' a2 a3 e2 e3 W6 := by
        have hmm := HM.out
        refine ⟨fm5.up (ad.far _ fm5.lt (by omega) (fm5.ne r15)), ft6, fs5.up (ad.far _ fs5.lt (by omega) (fs5.ne r15)), fq, r05.up (fun g hg => ad.far g (r05.lt hg).2 (fun e => ft5.ne r05 (e ▸ hg)) (fun e => ?_)), ad.row, fun g hg => ?_, hmt, by omega, by omega, by omega, by omega, by omega, HM.out ▸ B5.trans (ad.bel _ (by omega) (by omega) (by omega))⟩
        · have h1 := (r15.lt e).1
          have h2 := lr0 g hg
          omega
        · have h2 := lr0 g hg
          omega
      clear ad fm5 fs5 fq ft6 ft5 r05 r15 lr0 B2 B3 B4 B5 bel1
      have hnw : n < wr.heap.size := by rw [← HM.out]; exact hx
      have X10 : Hid (∀ W : World, G0 wr m t W3.heap.size W5.heap.size t W3.heap.size v0 v1' a2 a3 e2 e3 W → Calls Ybaf.prog 10 #[.pointer (some ⟨m, 0, none⟩), .int .u16 32544] W fun e w' => ∃ v0' gs, e = .returned (.pointer (some ⟨gs, 0, none⟩)) ∧ G1 wr m t W3.heap.size W5.heap.size gs t W3.heap.size v0' v1' a2 a3 e2 e3 w' ∧ w'.cell? ⟨n, 2, none⟩ = some (.slice (some ⟨q3, 0, none⟩) 2 2)) := fun W h => by
        refine (h.addDF (Nat.le_of_lt h.ft.lt)).mono ?_
        rintro e w' ⟨v0', gs, rfl, h1⟩
        exact ⟨v0', gs, rfl, h1, by rw [h1.bel.cell (by simpa using hnw)]; exact X2.out⟩
      have X13a : Hid (∀ W : World, G0 wr m t W3.heap.size W5.heap.size t W3.heap.size v0 v1' a2 a3 e2 e3 W → Calls Ybaf.prog 13 #[.slice (some ⟨q3, 0, none⟩) 2 2] W fun e w' => ∃ a c, e = .returned (.slice a 2 c) ∧ G0 wr m t W3.heap.size W5.heap.size t W3.heap.size v0 v1' a2 a3 e2 e3 w' ∧ w'.cell? ⟨n, 2, none⟩ = some (.slice (some ⟨q3, 0, none⟩) 2 2)) := fun W h => by
        refine (clone_two (HC.out.up h.bel).b3).mono ?_
        rintro e w' ⟨a, c, rfl, hb⟩
        have h1 := h.up hb
        exact ⟨a, c, rfl, h1, by rw [h1.bel.cell (by simpa using hnw)]; exact X2.out⟩
      have X13b : Hid (∀ (W : World) (gs : Nat) (v0' : Value), G1 wr m t W3.heap.size W5.heap.size gs t W3.heap.size v0' v1' a2 a3 e2 e3 W → Calls Ybaf.prog 13 #[.slice (some ⟨q3, 0, none⟩) 2 2] W fun e w' => ∃ a c, e = .returned (.slice a 2 c) ∧ G1 wr m t W3.heap.size W5.heap.size gs t W3.heap.size v0' v1' a2 a3 e2 e3 w' ∧ w'.cell? ⟨n, 2, none⟩ = some (.slice (some ⟨q3, 0, none⟩) 2 2)) := fun W gs v0' h => by
        refine (clone_two (HC.out.up h.bel).b3).mono ?_
        rintro e w' ⟨a, c, rfl, hb⟩
        have h1 := h.up hb
        exact ⟨a, c, rfl, h1, by rw [h1.bel.cell (by simpa using hnw)]; exact X2.out⟩
      have X11 : Hid (∀ (W : World) (gs : Nat) (v0' : Value) (a5 : Option Addr) (e5 : Nat), G1 wr m t W3.heap.size W5.heap.size gs t W3.heap.size v0' v1' a2 a3 e2 e3 W → Calls Ybaf.prog 11 #[.pointer (some ⟨gs, 0, none⟩), .int .u16 28472, .int .u8 0, .slice a5 2 e5, .int .i64 0] W fun e w' => ∃ (x : Value) (s : Shape), e = .returned x ∧ (Below wr.heap.size wr w' ∧ s.b0 = m ∧ s.b2 = W3.heap.size ∧ s.b3 = W5.heap.size ∧ Tree s w'.heap.size w') ∧ w'.cell? ⟨n, 2, none⟩ = some (.slice (some ⟨q3, 0, none⟩) 2 2)) := fun W gs v0' a5 e5 h => by
        refine (h.addEF a5 e5).mono ?_
        rintro e w' ⟨⟨x, rfl⟩, hb, s, h1, h2, h3, ht⟩
        exact ⟨x, s, rfl, ⟨hb, h1, h2, h3, ht⟩, by rw [hb.cell (by simpa using hnw)]; exact X2.out⟩
      have y2 : W6.cell? ⟨n, 2, none⟩ = some (.slice (some ⟨q3, 0, none⟩) 2 2) := by rw [g0.bel.cell (by simpa using hnw)]; exact X2.out
      go_upto_region 16 with fail
      go_region_held3 (fun w' => w'.cell? ⟨n, 2, none⟩ = some (.slice (some ⟨q3, 0, none⟩) 2 2)) (first | assumption)
        (first | (go_at_call 10; refine (X10.out _ (by first | assumption | exact G0.drew (by assumption))).mono ?_; rintro e w1 ⟨v0', gs, rfl, g1, y3⟩) | (go_at_call 13; refine (X13b.out _ _ _ (by first | assumption | exact G1.drew (by assumption))).mono ?_; rintro e w2 ⟨a5, e5, rfl, g2, y4⟩) | (go_at_call 13; refine (X13a.out _ (by first | assumption | exact G0.drew (by assumption))).mono ?_; rintro e w2 ⟨a5, e5, rfl, g2, y4⟩) | (go_at_call 11; refine (X11.out _ _ _ _ _ (by first | assumption | exact G1.drew (by assumption))).mono ?_; rintro e w4 ⟨x, s, rfl, g3, y5⟩))
      obtain ⟨hb, h1, h2, h3, ht⟩ := g3
      clear g0 g1 g2 X10 X13a X13b X11 y2 y3 y4 y5
      have HTr := hide ht
      have HH := hide (And.intro h1 (And.intro h2 h3))
      clear ht h1 h2 h3
      go_wp2_with fail
      obtain ⟨z1, z2, z3⟩ := alloc1 w4 (Obj.cells #[.int .i32 0, .int .u32 0, .pointer (some ⟨m, 0, none⟩), .pointer (some ⟨m, 0, none⟩), .pointer (some ⟨W3.heap.size, 0, none⟩), .pointer (some ⟨W5.heap.size, 0, none⟩), .slice none 0 0, .nilFunc] 39)
      generalize w4.alloc (Obj.cells #[.int .i32 0, .int .u32 0, .pointer (some ⟨m, 0, none⟩), .pointer (some ⟨m, 0, none⟩), .pointer (some ⟨W3.heap.size, 0, none⟩), .pointer (some ⟨W5.heap.size, 0, none⟩), .slice none 0 0, .nilFunc] 39) = W7 at *
      obtain ⟨h1, h2, h3⟩ := HH.out
      have hs := hb.size
      have hws := S0.out
      have hnn := HN.out
      go_ret
      refine ⟨s, w4.heap.size, rfl, HTr.out.up (fun b hb => z2.block b hb), ⟨?_, ?_, ?_, fun i => ?_, by omega⟩, ?_, ?_, by omega, ?_⟩
      · rw [h1]; simp [World.cell?, z3]
      · show W7.cell? _ = some (.pointer (some ⟨s.b0, 0, none⟩))
        rw [h1]; simp [World.cell?, z3]
      · simp [World.cell?, z3]
      · simp [World.frozen?, z3]
      · rw [h2]; simp [World.cell?, z3]
      · rw [h3]; simp [World.cell?, z3]
      · rw [hnn]
        exact (bel0.trans (hb.mono (by omega))).trans (z2.mono (by omega))
end Go.Proofs.YbulkdcggFmt
