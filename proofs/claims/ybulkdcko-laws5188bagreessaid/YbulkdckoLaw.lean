/-
  THE WALK of the law.
-/
import Derived.Test.YbulkdckoState
namespace Go.Proofs.Ybulkdcko
open Go.RowKit

/-- a script that came in -/
def Script (W : World) (v : Value) (len : Nat) : Prop := ∃ a cap, v = .slice a len cap ∧ len ≤ cap ∧ cap ≤ maxLen ∧ (0 < len → ∃ b o, a = some ⟨b, o, none⟩ ∧ b < W.heap.size ∧
  ∀ i, i < len → ∃ p n t : Int, W.cell? ⟨b, o + i * 3, none⟩ = some (.int .u8 p) ∧ W.cell? ⟨b, o + i * 3 + 1, none⟩ = some (.int .u16 n) ∧ W.cell? ⟨b, o + i * 3 + 2, none⟩ = some (.int .u32 t) ∧ 0 ≤ p ∧ p < 256 ∧ 0 ≤ n ∧ n < 65536 ∧ 0 ≤ t ∧ t < 4294967296)

theorem law_long {w : World} (a : Option Addr) (len cap : Nat) (h : 1024 < len) (q : Int) : Calls Yba.prog 3 #[.slice a len cap, .int .i64 q] w fun e w' => e = .returned (.bool true) ∧ Below w.heap.size w w' := by
  have h1 : (1024 : Int) < (len : Int) := by omega
  go_enter Yba.func3, Yba.ntmps3
  go_wp2_with fail
  go_ret
  exact ⟨rfl, Below.refl _ _⟩

set_option maxHeartbeats 6400000 in
set_option maxRecDepth 100000 in
theorem law_any {w : World} {v : Value} {len : Nat} (hs : Script w v len) (q : Int) : Calls Yba.prog 3 #[v, .int .i64 q] w fun e w' => e = .returned (.bool true) ∧ Below w.heap.size w w' := by
  obtain ⟨a, cap, rfl, hlc, hcm, hel⟩ := hs
  by_cases hlong : 1024 < len
  · exact law_long a len cap hlong q
  have h1 : ¬ (1024 : Int) < (len : Int) := by omega
  have hmk : (Instr.makeSlice 23 (.int .i64 9000) (.int .i64 9000)).run Yba.prog w = .ok (.slice (some ⟨w.heap.size, 0, none⟩) 9000 9000) (w.alloc (.cells (madeCells #[.int .i64 0] 9000) 2)) := run_make_row' (P := Yba.prog) 23 2 (.int .i64 0) 8 Yba.underlying23 info2 rfl .i64 .i64 9000 (by omega) (by omega) w
  obtain ⟨z1, z2, z3⟩ := alloc1 w (.cells (madeCells #[.int .i64 0] 9000) 2)
  have Z : Hid (Below w.heap.size w (w.alloc (.cells (madeCells #[.int .i64 0] 9000) 2)) ∧ (w.alloc (.cells (madeCells #[.int .i64 0] 9000) 2)).heap.size = w.heap.size + 1 ∧ (w.alloc (.cells (madeCells #[.int .i64 0] 9000) 2)).rowIs w.heap.size 2 9000 (fun j => if j < 0 then .int .i64 (-1) else .int .i64 0)) := ⟨z2, z1, (World.rowIs_made w (.int .i64 0) 9000 2).congr (fun j _ => by rw [if_neg (by omega)])⟩
  clear z1 z2 z3
  have HEL := hide hel
  clear hel
  generalize w.alloc (.cells (madeCells #[.int .i64 0] 9000) 2) = W0 at *
  go_enter Yba.func3, Yba.ntmps3
  go_upto_region 5 with fail
  clear hmk
  go_loopg [6, 24] 9000 (fun g s6 s24 wr => ∃ t : Nat, t ≤ 9000 ∧ g = 9000 - t ∧ s24 = .int .i64 (t : Nat) ∧ Below w.heap.size w wr ∧ wr.heap.size = w.heap.size + 1 ∧ wr.rowIs w.heap.size 2 9000 (fun j => if j < t then .int .i64 (-1) else .int .i64 0))
  case atStart => exact ⟨0, Nat.zero_le _, rfl, rfl, Z.out⟩
  case round =>
    clear Z
    obtain ⟨t, ht, hg, rfl, rb, rs, rr⟩ := hrel
    by_cases hlt : t < 9000
    · have ht1 : (t : Int) < 9000 := by omega
      have c1 := rr.cell hlt
      have c2 := rr.frozen t
      have R : Hid (Below w.heap.size w (wr.setCell ⟨w.heap.size, t, none⟩ (.int .i64 (-1))) ∧ (wr.setCell ⟨w.heap.size, t, none⟩ (.int .i64 (-1))).heap.size = w.heap.size + 1 ∧ (wr.setCell ⟨w.heap.size, t, none⟩ (.int .i64 (-1))).rowIs w.heap.size 2 9000 (fun j => if j < t + 1 then .int .i64 (-1) else .int .i64 0)) := by
        refine ⟨rb.setCell (Nat.le_refl _) _, by rw [size_set]; exact rs, (rr.set t (.int .i64 (-1))).congr (fun j _ => ?_)⟩
        by_cases e : j = t
        · rw [if_pos e, if_pos (by omega)]
        · rw [if_neg e]
          by_cases e2 : j < t
          · rw [if_pos e2, if_pos (by omega)]
          · rw [if_neg e2, if_neg (by omega)]
      clear rb rs rr hlc hcm
      go_wp2_with fail
      go_roundg (9000 - (t + 1))
      case measure => omega
      case rel => exact ⟨t + 1, by omega, rfl, by go_num, R.out⟩
    · obtain rfl : t = 9000 := by omega
      have B := hide (both_start rb rs (rr.congr (fun j hj => by rw [if_pos hj])))
      have rs' : Hid (wr.heap.size = w.heap.size + 1) := rs
      clear rb rr rs hlt ht hg
      go_upto_region 11 with fail
      rw [rs'.out]
      generalize wr.alloc (.cells #[.slice none 0 0, .int .i64 0, .int .i64 0, .int .i64 0, .int .i64 0, .int .i64 0] 27) = W1 at *
      clear rs'
      go_loopg [9, 10, 11, 35] len (fun g s9 s10 s11 s35 wl => ∃ (t : Nat) (L : Lay), t ≤ len ∧ g = len - t ∧ s35 = .int .i64 (t : Nat) ∧ Both w wl L)
      case atStart => exact ⟨0, _, Nat.zero_le _, rfl, rfl, B.out⟩
      case round =>
        clear B
        obtain ⟨t, L, ht, hg, rfl, B⟩ := hrel
        have B := hide B
        have HG := hide hg
        clear hg
        by_cases hlt : t < len
        · have ht1 : (t : Int) < (len : Int) := by omega
          obtain ⟨b, o, rfl, hbw, hcl⟩ := HEL.out (by omega)
          obtain ⟨p, n, x, c0, c1, c2, p0, p1, n0, n1, x0, x1⟩ := hcl t hlt
          have d0 : wr.cell? ⟨b, o + t * 3, none⟩ = some (.int .u8 p) := (B.out.bel.cell hbw).trans c0
          have d1 : wr.cell? ⟨b, o + t * 3 + 1, none⟩ = some (.int .u16 n) := (B.out.bel.cell hbw).trans c1
          have d2 : wr.cell? ⟨b, o + t * 3 + 2, none⟩ = some (.int .u32 x) := (B.out.bel.cell hbw).trans c2
          clear c0 c1 c2 hcl
          have hn9 : IntKind.i64.wrap n = n := by rw [IntKind.wrap_i64]; omega
          obtain ⟨nn, hnn⟩ : ∃ nn : Nat, n % 9000 = (nn : Int) := ⟨(n % 9000).toNat, by omega⟩
          have hn8 : nn < 9000 := by omega
          have hn8i : (nn : Int) < 9000 := by omega
          have hx1 : x ≠ -1 := by omega
          have hxw : IntKind.i64.wrap x = x := by rw [IntKind.wrap_i64]; omega
          by_cases hop : p % 3 = 2
          · go_upto_region 15 with fail
            rw [hnn]
            have G := hide (B.out.grew (alloc1 wr (.cells #[.int .u8 p, .int .u16 n, .int .u32 x] 31)).2.1)
            clear d0 d1 d2 B
            generalize wr.alloc (.cells #[.int .u8 p, .int .u16 n, .int .u32 x] 31) = W2 at *
            have HD := hide (drop_any G.out.pic (Nat.le_of_lt G.out.size) G.out.inv (nn : Nat))
            rw [G.out.gb] at HD
            have e1 := G.out.cell hn8
            have e2 := G.out.row.frozen nn
            go_wp2_with fail
            refine HD.out.mono ?_
            rintro e w1 ⟨rfl, L', st, hg', v', hv'⟩
            have m1 : w1.cell? ⟨w.heap.size, nn, none⟩ = some (.int .i64 (view L (nn : Nat))) := (st.bel.cell (Nat.lt_succ_self _)).trans e1
            have m2 : w1.frozen? ⟨w.heap.size, nn, none⟩ = false := (st.bel.frozen (Nat.lt_succ_self _)).trans e2
            have G2 := hide (G.out.next st (hg'.trans G.out.gb.symm) v' hv')
            clear st hg' v' hv' HD G e1 e2
            go_wp2_with fail
            go_roundg (len - (t + 1))
            case measure => have := HG.out; omega
            case rel => exact ⟨t + 1, L', by omega, rfl, by go_num, G2.out⟩
          · go_upto_region 18 with fail
            rw [hnn]
            have G := hide (B.out.grew (alloc1 wr (.cells #[.int .u8 p, .int .u16 n, .int .u32 x] 31)).2.1)
            clear d0 d1 d2 B
            generalize wr.alloc (.cells #[.int .u8 p, .int .u16 n, .int .u32 x] 31) = W2 at *
            have HD := hide (hold_any G.out.pic (Nat.le_of_lt G.out.size) G.out.inv (nn : Nat) x (by omega) (by omega) hx1)
            rw [G.out.gb] at HD
            have e1 := G.out.cell hn8
            have e2 := G.out.row.frozen nn
            go_wp2_with fail
            refine HD.out.mono ?_
            rintro e w1 ⟨rfl, L', st, hg', v', hv'⟩
            have m1 : w1.cell? ⟨w.heap.size, nn, none⟩ = some (.int .i64 (view L (nn : Nat))) := (st.bel.cell (Nat.lt_succ_self _)).trans e1
            have m2 : w1.frozen? ⟨w.heap.size, nn, none⟩ = false := (st.bel.frozen (Nat.lt_succ_self _)).trans e2
            have G2 := hide (G.out.next st (hg'.trans G.out.gb.symm) v' hv')
            clear st hg' v' hv' HD G e1 e2
            go_wp2_with fail
            go_roundg (len - (t + 1))
            case measure => have := HG.out; omega
            case rel => exact ⟨t + 1, L', by omega, rfl, by go_num, G2.out⟩
        · obtain rfl : t = len := by omega
          clear HG hlt ht
          go_upto_region 22 with fail
          go_loopg [12, 13, 14, 15] 9004 (fun g s12 s13 s14 s15 wl => ∃ n : Int, -2 ≤ n ∧ n ≤ 9002 ∧ g = (9002 - n).toNat ∧ s12 = .int .i64 n ∧ Both w wl L)
          case atStart => exact ⟨-2, by omega, by omega, rfl, rfl, B.out⟩
          case round =>
            clear B
            obtain ⟨n, n0, n1, hg, rfl, B⟩ := hrel
            have B := hide B
            have HG := hide hg
            clear hg
            have HL : Hid (Calls Yba.prog 6 #[.pointer (some ⟨w.heap.size + 1, 0, none⟩), .int .i64 n] wr fun e w' => e = .returned (.tuple #[.int .i64 (lineP L n).1, .bool (lineP L n).2]) ∧ ∃ k, w' = wr.drewN k) := by
              rw [← B.out.gb]
              exact line_any B.out.pic B.out.inv.sh n
            by_cases hlt : n < 9002
            · have hwn : IntKind.i64.wrap (n + 1) = n + 1 := by rw [IntKind.wrap_i64]; omega
              by_cases ho : n < 0 ∨ 9000 ≤ n
              · rw [line_out B.out.inv ho] at HL
                rcases ho with ho | ho
                · go_wp2_with fail
                  refine HL.out.mono ?_
                  rintro e w1 ⟨rfl, k, rfl⟩
                  have G := hide (B.out.grew (below_drewN (Below.refl _ _) k))
                  clear HL B
                  generalize wr.drewN k = W2 at *
                  go_wp2_with fail
                  go_roundg (9002 - (n + 1)).toNat
                  case measure => have := HG.out; omega
                  case rel => exact ⟨n + 1, by omega, by omega, rfl, rfl, G.out⟩
                · go_wp2_with fail
                  refine HL.out.mono ?_
                  rintro e w1 ⟨rfl, k, rfl⟩
                  have G := hide (B.out.grew (below_drewN (Below.refl _ _) k))
                  clear HL B
                  generalize wr.drewN k = W2 at *
                  go_wp2_with fail
                  go_roundg (9002 - (n + 1)).toNat
                  case measure => have := HG.out; omega
                  case rel => exact ⟨n + 1, by omega, by omega, rfl, rfl, G.out⟩
              · obtain ⟨nn, rfl⟩ : ∃ nn : Nat, n = (nn : Int) := ⟨n.toNat, by omega⟩
                have hn8 : nn < 9000 := by omega
                have hn8i : (nn : Int) < 9000 := by omega
                clear ho
                by_cases hv : view L (nn : Nat) = -1
                · obtain ⟨q1, q2⟩ := line_vac B.out.inv hv
                  rw [q1] at HL
                  generalize (lineP L (nn : Nat)).1 = z at *
                  rcases q2 with rfl | rfl
                  · go_wp2_with fail
                    refine HL.out.mono ?_
                    rintro e w1 ⟨rfl, k, rfl⟩
                    have G := hide (B.out.grew (below_drewN (Below.refl _ _) k))
                    have e1 : (wr.drewN k).cell? ⟨w.heap.size, nn, none⟩ = some (.int .i64 (-1)) := by rw [← hv]; exact G.out.cell hn8
                    clear HL B
                    generalize wr.drewN k = W2 at *
                    go_wp2_with fail
                    go_roundg (9002 - ((nn : Int) + 1)).toNat
                    case measure => have := HG.out; omega
                    case rel => exact ⟨(nn : Int) + 1, by omega, by omega, rfl, rfl, G.out⟩
                  · go_wp2_with fail
                    refine HL.out.mono ?_
                    rintro e w1 ⟨rfl, k, rfl⟩
                    have G := hide (B.out.grew (below_drewN (Below.refl _ _) k))
                    have e1 : (wr.drewN k).cell? ⟨w.heap.size, nn, none⟩ = some (.int .i64 (-1)) := by rw [← hv]; exact G.out.cell hn8
                    clear HL B
                    generalize wr.drewN k = W2 at *
                    go_wp2_with fail
                    go_roundg (9002 - ((nn : Int) + 1)).toNat
                    case measure => have := HG.out; omega
                    case rel => exact ⟨(nn : Int) + 1, by omega, by omega, rfl, rfl, G.out⟩
                · rw [line_held B.out.inv hv] at HL
                  have hvb : (view L (nn : Nat) == -1) = false := by simpa using hv
                  have hvc : (view L (nn : Nat) != -1) = true := by simp [bne, hvb]
                  go_wp2_with fail
                  refine HL.out.mono ?_
                  rintro e w1 ⟨rfl, k, rfl⟩
                  have G := hide (B.out.grew (below_drewN (Below.refl _ _) k))
                  have e1 := G.out.cell hn8
                  clear HL B
                  generalize wr.drewN k = W2 at *
                  go_wp2_with fail
                  go_roundg (9002 - ((nn : Int) + 1)).toNat
                  case measure => have := HG.out; omega
                  case rel => exact ⟨(nn : Int) + 1, by omega, by omega, rfl, rfl, G.out⟩
            · obtain rfl : n = 9002 := by omega
              clear HG hlt n0 n1 HL
              have HQ : Hid (Calls Yba.prog 6 #[.pointer (some ⟨w.heap.size + 1, 0, none⟩), .int .i64 q] wr fun e w' => e = .returned (.tuple #[.int .i64 (lineP L q).1, .bool (lineP L q).2]) ∧ ∃ k, w' = wr.drewN k) := by
                rw [← B.out.gb]
                exact line_any B.out.pic B.out.inv.sh q
              by_cases ho : q < 0 ∨ 9000 ≤ q
              · rw [line_out B.out.inv ho] at HQ
                rcases ho with ho | ho
                · go_wp2_with fail
                  refine HQ.out.mono ?_
                  rintro e w1 ⟨rfl, k, rfl⟩
                  have G := hide (B.out.grew (below_drewN (Below.refl _ _) k))
                  clear HQ B
                  generalize wr.drewN k = W2 at *
                  go_wp2_with fail
                  go_ret
                  exact ⟨rfl, G.out.bel⟩
                · go_wp2_with fail
                  refine HQ.out.mono ?_
                  rintro e w1 ⟨rfl, k, rfl⟩
                  have G := hide (B.out.grew (below_drewN (Below.refl _ _) k))
                  clear HQ B
                  generalize wr.drewN k = W2 at *
                  go_wp2_with fail
                  go_ret
                  exact ⟨rfl, G.out.bel⟩
              · obtain ⟨nn, rfl⟩ : ∃ nn : Nat, q = (nn : Int) := ⟨q.toNat, by omega⟩
                have hn8 : nn < 9000 := by omega
                have hn8i : (nn : Int) < 9000 := by omega
                clear ho
                by_cases hv : view L (nn : Nat) = -1
                · obtain ⟨q1, q2⟩ := line_vac B.out.inv hv
                  rw [q1] at HQ
                  generalize (lineP L (nn : Nat)).1 = z at *
                  rcases q2 with rfl | rfl
                  · go_wp2_with fail
                    refine HQ.out.mono ?_
                    rintro e w1 ⟨rfl, k, rfl⟩
                    have G := hide (B.out.grew (below_drewN (Below.refl _ _) k))
                    have e1 : (wr.drewN k).cell? ⟨w.heap.size, nn, none⟩ = some (.int .i64 (-1)) := by rw [← hv]; exact G.out.cell hn8
                    clear HQ B
                    generalize wr.drewN k = W2 at *
                    go_wp2_with fail
                    go_ret
                    exact ⟨rfl, G.out.bel⟩
                  · go_wp2_with fail
                    refine HQ.out.mono ?_
                    rintro e w1 ⟨rfl, k, rfl⟩
                    have G := hide (B.out.grew (below_drewN (Below.refl _ _) k))
                    have e1 : (wr.drewN k).cell? ⟨w.heap.size, nn, none⟩ = some (.int .i64 (-1)) := by rw [← hv]; exact G.out.cell hn8
                    clear HQ B
                    generalize wr.drewN k = W2 at *
                    go_wp2_with fail
                    go_ret
                    exact ⟨rfl, G.out.bel⟩
                · rw [line_held B.out.inv hv] at HQ
                  go_wp2_with fail
                  refine HQ.out.mono ?_
                  rintro e w1 ⟨rfl, k, rfl⟩
                  have G := hide (B.out.grew (below_drewN (Below.refl _ _) k))
                  have e1 := G.out.cell hn8
                  clear HQ B
                  generalize wr.drewN k = W2 at *
                  go_wp2_with fail
                  go_ret
                  exact ⟨rfl, G.out.bel⟩
end Go.Proofs.Ybulkdcko
