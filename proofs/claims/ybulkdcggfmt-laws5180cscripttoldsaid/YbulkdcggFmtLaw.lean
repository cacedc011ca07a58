/-
  THE WALK of LawS5180CScript.
-/
import Derived.Test.YbulkdcggFmtLawDefs
namespace Go.Proofs.YbulkdcggFmt
open Go.RowKit

theorem start (w : World) : Cont ((((w.alloc (Obj.cells (madeCells #[.int .u8 0] 176) 5)).alloc (Obj.cells #[.slice (some ⟨w.heap.size, 0, none⟩) 176 176] 25)).alloc (Obj.cells #[.int .u8 0, .int .u8 255] 5)).alloc (Obj.cells #[.int .u8 0, .int .u8 0] 5)) w.heap.size (w.heap.size + 1) (w.heap.size + 1 + 1) (w.heap.size + 1 + 1 + 1) ∧ Below w.heap.size w ((((w.alloc (Obj.cells (madeCells #[.int .u8 0] 176) 5)).alloc (Obj.cells #[.slice (some ⟨w.heap.size, 0, none⟩) 176 176] 25)).alloc (Obj.cells #[.int .u8 0, .int .u8 255] 5)).alloc (Obj.cells #[.int .u8 0, .int .u8 0] 5)) := by
  obtain ⟨a1, a2, a3, a4⟩ := alloc2 w (Obj.cells (madeCells #[.int .u8 0] 176) 5) (Obj.cells #[.slice (some ⟨w.heap.size, 0, none⟩) 176 176] 25)
  generalize (w.alloc (Obj.cells (madeCells #[.int .u8 0] 176) 5)).alloc (Obj.cells #[.slice (some ⟨w.heap.size, 0, none⟩) 176 176] 25) = V at *
  obtain ⟨b1, b2, b3, b4⟩ := alloc2 V (Obj.cells #[.int .u8 0, .int .u8 255] 5) (Obj.cells #[.int .u8 0, .int .u8 0] 5)
  generalize (V.alloc (Obj.cells #[.int .u8 0, .int .u8 255] 5)).alloc (Obj.cells #[.int .u8 0, .int .u8 0] 5) = U at *
  have e : V.heap.size = w.heap.size + 1 + 1 := a1
  rw [e] at b3 b4
  have c1 := (b2.block w.heap.size (by omega)).trans a3
  have c2 := (b2.block (w.heap.size + 1) (by omega)).trans a4
  exact ⟨⟨by simp [World.cell?, c2], Buf.zeros c1, Buf.fresh (l := [0, 255]) b3, Buf.fresh (l := [0, 0]) b4, by omega, by omega, by omega, by omega⟩, a2.trans (b2.mono (by omega))⟩

set_option maxHeartbeats 12800000 in
set_option maxRecDepth 100000 in
theorem law_any {w : World} {v : Value} {n : Nat} (hv : Script w v n) :
    Calls Ybaf.prog 3 #[v] w fun e w' => e = .returned (.bool true) ∧ Below w.heap.size w w' := by
  obtain ⟨a, c, rfl, hc1, hc2, hs⟩ := hv
  have HS := hide hs
  clear hs
  unfold maxLen at hc2
  by_cases hn : 1024 < n
  · have hn' : (1024 : Int) < (n : Int) := by omega
    go_enter Ybaf.func3, Ybaf.ntmps3
    go_wp2_with fail
    go_ret
    exact ⟨rfl, Below.refl _ _⟩
  have hn' : ¬ (1024 : Int) < (n : Int) := by omega
  have hmk : ∀ W : World, (Instr.makeSlice 25 (.int .i64 176) (.int .i64 176)).run Ybaf.prog W = .ok (.slice (some ⟨W.heap.size, 0, none⟩) 176 176) (W.alloc (.cells (madeCells #[.int .u8 0] 176) 5)) := fun W => run_make_row' (P := Ybaf.prog) 25 5 (.int .u8 0) 1 Ybaf.underlying25 info5 rfl .i64 .i64 176 (by omega) (by omega) W
  go_enter Ybaf.func3, Ybaf.ntmps3
  go_wp2_with fail
  obtain ⟨C0, B0⟩ := start w
  generalize (((w.alloc (Obj.cells (madeCells #[.int .u8 0] 176) 5)).alloc (Obj.cells #[.slice (some ⟨w.heap.size, 0, none⟩) 176 176] 25)).alloc (Obj.cells #[.int .u8 0, .int .u8 255] 5)).alloc (Obj.cells #[.int .u8 0, .int .u8 0] 5) = W0 at *
  refine (new_any C0).mono ?_
  rintro e W1 ⟨s, cb, rfl, t1, cd1, c4, c5, hlo, B1⟩
  have B1' : Below w.heap.size w W1 := B0.trans (B1.mono B0.size)
  have lo : w.heap.size ≤ cb := by have := B0.size; omega
  clear hmk C0 B0 B1
  have c2 := cd1.mf
  have cl := cd1.lt
  have HT := hide t1
  have HC := hide cd1
  have HK : Hid (∀ W' : World, Below W1.heap.size W1 W' → W'.cell? ⟨cb, 2, none⟩ = some (.pointer (some ⟨s.b0, 0, none⟩)) ∧ W'.cell? ⟨cb, 4, none⟩ = some (.pointer (some ⟨s.b2, 0, none⟩)) ∧ W'.cell? ⟨cb, 5, none⟩ = some (.pointer (some ⟨s.b3, 0, none⟩)) ∧
      W'.cell? ⟨s.b0, 3, none⟩ = some (.slice (some ⟨s.c0, 0, none⟩) 2 s.p0) ∧ W'.cell? ⟨s.c0, 0, none⟩ = some (.pointer (some ⟨s.b1, 0, none⟩)) ∧ W'.cell? ⟨s.c0, 1, none⟩ = some (.pointer (some ⟨s.b4, 0, none⟩)) ∧
      W'.cell? ⟨s.b4, 3, none⟩ = some (.slice (some ⟨s.c4, 0, none⟩) 1 s.p4) ∧ W'.cell? ⟨s.c4, 0, none⟩ = some (.pointer (some ⟨s.b5, 0, none⟩))) := by
    intro W' b
    have tr := t1.up (fun x hx => b.block x (by omega))
    exact ⟨(b.cell (by simpa using cl)).trans c2, (b.cell (by simpa using cl)).trans c4, (b.cell (by simpa using cl)).trans c5, (tr.get 3 (g := s.b0) (o := 3) (v := .slice (some ⟨s.c0, 0, none⟩) 2 s.p0) rfl).2, (tr.get 42 (g := s.c0) (o := 0) (v := .pointer (some ⟨s.b1, 0, none⟩)) rfl).2, (tr.get 43 (g := s.c0) (o := 1) (v := .pointer (some ⟨s.b4, 0, none⟩)) rfl).2, (tr.get 31 (g := s.b4) (o := 3) (v := .slice (some ⟨s.c4, 0, none⟩) 1 s.p4) rfl).2, (tr.get 46 (g := s.c4) (o := 0) (v := .pointer (some ⟨s.b5, 0, none⟩)) rfl).2⟩
  have k0 := t1.k0
  have k4 := t1.k4
  clear t1 cd1 hlo c2 c4 c5
  have hw1 := Below.refl W1.heap.size W1
  go_upto_region 4 with fail
  go_region_held3 (fun W' => W'.cell? ⟨cb, 2, none⟩ = some (.pointer (some ⟨s.b0, 0, none⟩)) ∧ W'.cell? ⟨cb, 4, none⟩ = some (.pointer (some ⟨s.b2, 0, none⟩)) ∧ W'.cell? ⟨cb, 5, none⟩ = some (.pointer (some ⟨s.b3, 0, none⟩)) ∧
      W'.cell? ⟨s.b0, 3, none⟩ = some (.slice (some ⟨s.c0, 0, none⟩) 2 s.p0) ∧ W'.cell? ⟨s.c0, 0, none⟩ = some (.pointer (some ⟨s.b1, 0, none⟩)) ∧ W'.cell? ⟨s.c0, 1, none⟩ = some (.pointer (some ⟨s.b4, 0, none⟩)) ∧
      W'.cell? ⟨s.b4, 3, none⟩ = some (.slice (some ⟨s.c4, 0, none⟩) 1 s.p4) ∧ W'.cell? ⟨s.c4, 0, none⟩ = some (.pointer (some ⟨s.b5, 0, none⟩))) (first | (exact HK.out _ (by repeat (first | assumption | exact Below.refl _ _ | refine Below.drew ?_ | refine Below.alloc ?_ (by simp) _ | refine Below.setCell ?_ (by simp) _))))
    (first | fail)
  obtain ⟨x1, x2, x3⟩ := alloc1 W1 (Obj.cells #[.pointer (some ⟨s.b0, 0, none⟩), .pointer (some ⟨s.b1, 0, none⟩), .pointer (some ⟨s.b2, 0, none⟩), .pointer (some ⟨s.b3, 0, none⟩), .pointer (some ⟨s.b4, 0, none⟩), .pointer (some ⟨s.b5, 0, none⟩)] 45)
  have x2' := x2.drew
  have x3' : (W1.alloc (Obj.cells #[.pointer (some ⟨s.b0, 0, none⟩), .pointer (some ⟨s.b1, 0, none⟩), .pointer (some ⟨s.b2, 0, none⟩), .pointer (some ⟨s.b3, 0, none⟩), .pointer (some ⟨s.b4, 0, none⟩), .pointer (some ⟨s.b5, 0, none⟩)] 45)).drew.heap[W1.heap.size]? = _ := x3
  have x1' : (W1.alloc (Obj.cells #[.pointer (some ⟨s.b0, 0, none⟩), .pointer (some ⟨s.b1, 0, none⟩), .pointer (some ⟨s.b2, 0, none⟩), .pointer (some ⟨s.b3, 0, none⟩), .pointer (some ⟨s.b4, 0, none⟩), .pointer (some ⟨s.b5, 0, none⟩)] 45)).drew.heap.size = W1.heap.size + 1 := x1
  clear x1 x2 x3
  generalize (W1.alloc (Obj.cells #[.pointer (some ⟨s.b0, 0, none⟩), .pointer (some ⟨s.b1, 0, none⟩), .pointer (some ⟨s.b2, 0, none⟩), .pointer (some ⟨s.b3, 0, none⟩), .pointer (some ⟨s.b4, 0, none⟩), .pointer (some ⟨s.b5, 0, none⟩)] 45)).drew = W2 at *
  have X1 := hide x1'
  clear x1'
  go_upto_region 8 with fail
  obtain ⟨y1, y2, y3⟩ := alloc1 W2 (Obj.cells #[.int .u16 16128, .int .u16 32528, .int .u16 28476, .int .u16 28483, .int .u16 32544, .int .u16 28472, .int .u16 0] 46)
  generalize W2.alloc (Obj.cells #[.int .u16 16128, .int .u16 32528, .int .u16 28476, .int .u16 28483, .int .u16 32544, .int .u16 28472, .int .u16 0] 46) = W3 at *
  have x1 := X1.out
  have e3 := (y2.block W1.heap.size (by omega)).trans x3'
  have S0 : Hid (St w s cb W1.heap.size W2.heap.size 0 (.slice none 0 0) [] W3) := by
    have b13 : Below W1.heap.size W1 W3 := x2'.trans (y2.mono (by omega))
    refine ⟨HT.out.up (fun x hx => b13.block x (by omega)), HC.out.up (b13.block _ cl) b13.size, ⟨none, 0, rfl, Nat.le_refl _, by decide, fun h => absurd rfl h⟩, .inl rfl, fun k hk => ?_, fun k hk => ?_, B1'.trans (b13.mono B1'.size), lo, cl, by omega, by omega⟩
    · rcases six hk with rfl | rfl | rfl | rfl | rfl | rfl <;> simp [World.cell?, e3, Shape.b]
    · have h7 : k = 0 ∨ k = 1 ∨ k = 2 ∨ k = 3 ∨ k = 4 ∨ k = 5 ∨ k = 6 := by omega
      rcases h7 with rfl | rfl | rfl | rfl | rfl | rfl | rfl <;> simp [World.cell?, y3, tabOf, idOf]
  clear HK HC HT x1 x2' x3' y1 y2 y3 e3 X1 k0 k4 hw1 lo cl
  have Bw : Hid (Below w.heap.size w W1) := B1'
  clear B1' Bw
  generalize W1.heap.size = fa at *
  generalize W2.heap.size = tb at *
  go_loopg [6, 76] n (fun gq sc si wr => ∃ (i cur : Nat) (rv : Value) (rl : List UInt8), sc = .int .i64 (cur : Nat) ∧ si = .int .i64 (i : Nat) ∧ i ≤ n ∧ gq = n - i ∧ cur < 6 ∧ Hid (St w s cb fa tb cur rv rl wr))
  case atStart => exact ⟨0, 0, _, _, rfl, rfl, by omega, rfl, by omega, S0⟩
  case round =>
    clear S0
    obtain ⟨i, cur, rv, rl, rfl, rfl, hi, hg, hcur, H⟩ := hrel
    by_cases hlt : i < n
    case neg =>
      have e : i = n := by omega
      subst e
      go_wp2_with fail
      go_ret
      exact ⟨rfl, H.out.bel⟩
    case pos =>
      have hlt' : (i : Int) < (n : Int) := by omega
      obtain ⟨g, o, rfl, hgl, hst⟩ := HS.out (by omega)
      obtain ⟨md, pk, p1, p2, dv, dl, hstep⟩ := hst i hlt
      clear hst
      have bel := H.out.bel
      have c0 := (bel.cell (p := ⟨g, o + i * 5, none⟩) (by simpa using hgl)).trans hstep.c0
      have c1 := (bel.cell (p := ⟨g, o + i * 5 + 1, none⟩) (by simpa using hgl)).trans hstep.c1
      have c2 := (bel.cell (p := ⟨g, o + i * 5 + 2, none⟩) (by simpa using hgl)).trans hstep.c2
      have c3 := (bel.cell (p := ⟨g, o + i * 5 + 3, none⟩) (by simpa using hgl)).trans hstep.c3
      have c4 := (bel.cell (p := ⟨g, o + i * 5 + 4, none⟩) (by simpa using hgl)).trans hstep.c4
      have hd := hstep.d.up (W := wr) (fun b hb => bel.block b hb)
      have hb0 := hstep.b0
      have hb1 := hstep.b1
      have hb2 := hstep.b2
      have hb3 := hstep.b3
      clear hstep
      obtain ⟨da, dc, rfl, hd1, hd2, hd3⟩ := hd
      have HD := hide hd3
      clear hd3
      go_upto_region 10 with fail
      obtain ⟨z1, z2, z3⟩ := alloc1 wr (Obj.cells #[.int .u8 (md : Nat), .int .u8 (pk : Nat), .int .u8 (p1 : Nat), .int .u8 (p2 : Nat), .slice da dl.length dc] 48)
      generalize wr.alloc (Obj.cells #[.int .u8 (md : Nat), .int .u8 (pk : Nat), .int .u8 (p1 : Nat), .int .u8 (p2 : Nat), .slice da dl.length dc] 48) = Wd at *
      have u0 : Wd.cell? ⟨wr.heap.size, 0, none⟩ = some (.int .u8 (md : Nat)) := by simp [World.cell?, z3]
      have u1 : Wd.cell? ⟨wr.heap.size, 1, none⟩ = some (.int .u8 (pk : Nat)) := by simp [World.cell?, z3]
      have u2 : Wd.cell? ⟨wr.heap.size, 2, none⟩ = some (.int .u8 (p1 : Nat)) := by simp [World.cell?, z3]
      have u3 : Wd.cell? ⟨wr.heap.size, 3, none⟩ = some (.int .u8 (p2 : Nat)) := by simp [World.cell?, z3]
      have u4 : Wd.cell? ⟨wr.heap.size, 4, none⟩ = some (.slice da dl.length dc) := by simp [World.cell?, z3]
      have hul : wr.heap.size < Wd.heap.size := by omega
      have HSt := hide (H.out.up z2)
      have u5 := HSt.out.tab (pk % 7) (by omega)
      have htl := tab_lt (pk % 7)
      have hDD : Hid (dl ≠ [] → ∃ g o, da = some ⟨g, o, none⟩ ∧ g < Wd.heap.size ∧ g ≠ cb ∧ ∀ j (hj : j < dl.length), Wd.cell? ⟨g, o + j, none⟩ = some (.int .u8 (dl[j]).toNat)) := fun hne => by
        obtain ⟨gd, od, rfl, hgd, hcd⟩ := HD.out hne
        have hq : gd < wr.heap.size := Nat.lt_of_lt_of_le hgd bel.size
        have hlo := HSt.out.lo
        exact ⟨gd, od, rfl, by omega, by omega, fun j hj => by rw [z2.cell (by simpa using hq)]; exact hcd j hj⟩
      clear H HD z1 z2 z3 c0 c1 c2 c3 c4 bel
      generalize wr.heap.size = nb at *
      go_upto_region 14 with fail
      generalize tabOf (pk % 7) = T at *

      by_cases h3 : md % 5 = 3
      case pos =>
        have e3 : (md : Int) % 5 = 3 := by omega
        have e4 : ¬ (md : Int) % 5 = 4 := by omega
        go_upto_region 20 with fail
        clear u0 u1 u2 u3 u4 u5 hul htl
        by_cases hl2 : dl.length = 2
        case neg =>
          have hl3 : ((dl.length : Int) == 2) = false := by simpa using (show (dl.length : Int) ≠ 2 by omega)
          have hl4 : ¬ (dl.length : Int) = 2 := by omega
          have q6 := HSt.out.card.resp
          go_wp2_with fail
          refine (file_l _ _ _ _ Wd hl2).mono ?_
          rintro e Wf ⟨rfl, rfl⟩
          clear q6
          as_aux_lemma =>
            have q3 := HSt.out.card.cur
            have q6 := HSt.out.card.resp
            have qf := HSt.out.fil cur hcur
            have ic : (cur : Int) < 6 := by omega
            have hpe := fun W => ptr_neq W ⟨s.b cur, 0, none⟩
            go_upto_region 37 with fail
            go_quiet (fail)
            have HSe := hide (HSt.out.up (below_drewN (Below.refl _ _) nq))
            generalize Wf.drewN nq = We at *
            clear q3 q6 qf hpe HSt
            have q6 := HSe.out.card.resp
            have EQ := hide (equal_any HSe.out.resp HSe.out.resp)
            have hn1 := fun W => sl_nil W
            rcases HSe.out.form with rfl | ⟨gr, nr, rfl⟩
            all_goals
              try have hn2 := fun W => sl_some W ⟨gr, 0, none⟩ nr nr
              go_wp2_with (go_at_call 8; refine EQ.out.mono ?_; rintro e We ⟨rfl, rfl⟩)
              go_roundg (n - (i + 1))
              case measure => omega
              case rel => exact ⟨i + 1, cur, _, _, rfl, rfl, by omega, rfl, hcur, HSe⟩
        case pos =>
          obtain ⟨x, y, rfl⟩ : ∃ x y, dl = [x, y] := by
            match dl, hl2 with
            | [x, y], _ => exact ⟨x, y, rfl⟩
          obtain ⟨gd, od, rfl, hgd, hgne, hcd⟩ := hDD.out (by simp)
          have hx : Wd.cell? ⟨gd, od, none⟩ = some (.int .u8 x.toNat) := hcd 0 (by simp)
          have hy : Wd.cell? ⟨gd, od + 1, none⟩ = some (.int .u8 y.toNat) := hcd 1 (by simp)
          clear hDD hcd hl2
          simp only [List.length_cons, List.length_nil, Nat.reduceAdd]
          have hxl := x.toNat_lt
          have hyl := y.toNat_lt
          have A5 := hide (file_two HSt.out.tree (Nat.le_refl _) hcur HSt.out.card gd od dc x y hx hy hgd)
          have M6 := hide (fun W : World => model_any cur (x.toNat * 256 + y.toNat) hcur (by omega) W)
          have hP : ∀ k, pick (dirOf cur) (x.toNat * 256 + y.toNat) = some k → k < 6 := fun k => pick_lt
          have EBO : Hid (bits .or .u16 (IntKind.u16.wrap (IntKind.u16.wrap (x.toNat : Int) * 256)) (IntKind.u16.wrap (y.toNat : Int)) = ((x.toNat * 256 + y.toNat : Nat) : Int)) := by
            show bits _ _ _ _ = _
            rw [wraps_u16 (x.toNat : Int) (by omega) (by omega), wraps_u16 (y.toNat : Int) (by omega) (by omega), wraps_u16 ((x.toNat : Int) * 256) (by omega) (by omega)]
            rw [bits_join .u16 16 (by decide) wraps_u16 8 _ _ (by omega) (by omega) (by omega) (by omega) (by omega) (by omega)]
            omega
          have q6 := HSt.out.card.resp
          generalize pick (dirOf cur) (x.toNat * 256 + y.toNat) = P at *
          cases P with
          | none =>
            as_aux_lemma =>
              clear hP
              go_wp2_with fail
              refine A5.out.mono ?_
              rintro e w5 ⟨rfl, B5⟩
              have HS5 := hide (HSt.out.up B5)
              have hx5 := (B5.cell (p := ⟨gd, od, none⟩) (by simpa using hgd)).trans hx
              have hy5 := (B5.cell (p := ⟨gd, od + 1, none⟩) (by simpa using hgd)).trans hy
              have hgd5 : gd < w5.heap.size := Nat.lt_of_lt_of_le hgd B5.size
              clear q6 A5 HSt hx hy B5 
              have hb5 := Below.refl w5.heap.size w5
              have A6 : Hid (∀ (W' : World) (z : Int), z = ((x.toNat * 256 + y.toNat : Nat) : Int) → Below w5.heap.size w5 W' → Calls Ybaf.prog 6 #[.int .i64 (cur : Nat), .int .u16 z] W' fun e w' => e = .returned (.int .i64 (-1)) ∧ Below w5.heap.size w5 w' ∧ w'.cell? ⟨gd, od, none⟩ = some (.int .u8 x.toNat) ∧ w'.cell? ⟨gd, od + 1, none⟩ = some (.int .u8 y.toNat)) := fun W' z hz h => by
                rw [hz]
                refine (M6.out W').mono ?_
                rintro e w' ⟨rfl, hb⟩
                have hb' := h.trans (hb.mono h.size)
                exact ⟨rfl, hb', (hb'.cell (by simpa using hgd5)).trans hx5, (hb'.cell (by simpa using hgd5)).trans hy5⟩
              clear M6
              go_upto_region 28 with fail
              go_region_held3 (fun w' => w'.cell? ⟨gd, od, none⟩ = some (.int .u8 x.toNat) ∧ w'.cell? ⟨gd, od + 1, none⟩ = some (.int .u8 y.toNat)) (first | (exact ⟨by assumption, by assumption⟩))
                (first | (go_at_call 6; refine (A6.out _ _ (by first | exact EBO.out) (by first | assumption | exact Below.drew (by assumption))).mono ?_; rintro e w6 ⟨rfl, hb6, yy1, yy2⟩))
              have HS6 := hide (HS5.out.up hb6)
              clear HS5 A6 hb6 hx5 hy5 yy1 yy2 hb5 hgd5 EBO
              as_aux_lemma =>
                have q3 := HS6.out.card.cur
                have q6 := HS6.out.card.resp
                have qf := HS6.out.fil cur hcur
                have ic : (cur : Int) < 6 := by omega
                have hpe := fun W => ptr_neq W ⟨s.b cur, 0, none⟩
                go_upto_region 37 with fail
                go_quiet (fail)
                have HSe := hide (HS6.out.up (below_drewN (Below.refl _ _) nq))
                generalize w6.drewN nq = We at *
                clear q3 q6 qf hpe HS6
                have q6 := HSe.out.card.resp
                have EQ := hide (equal_any HSe.out.resp HSe.out.resp)
                have hn1 := fun W => sl_nil W
                rcases HSe.out.form with rfl | ⟨gr, nr, rfl⟩
                all_goals
                  try have hn2 := fun W => sl_some W ⟨gr, 0, none⟩ nr nr
                  go_wp2_with (go_at_call 8; refine EQ.out.mono ?_; rintro e We ⟨rfl, rfl⟩)
                  go_roundg (n - (i + 1))
                  case measure => omega
                  case rel => exact ⟨i + 1, cur, _, _, rfl, rfl, by omega, rfl, hcur, HSe⟩
          | some k =>
            as_aux_lemma =>
              have hk := hP k rfl
              clear hP
              go_wp2_with fail
              refine A5.out.mono ?_
              rintro e w5 ⟨rfl, S5⟩
              have hb5x : w5.heap[gd]? = Wd.heap[gd]? := by
                rcases Nat.lt_or_gt_of_ne hgne with h | h
                · exact S5.bel.block _ h
                · exact S5.far _ h hgd
              have hx5 := (World.cell?_of_block (a := ⟨gd, od, none⟩) hb5x).trans hx
              have hy5 := (World.cell?_of_block (a := ⟨gd, od + 1, none⟩) hb5x).trans hy
              have hgd5 : gd < w5.heap.size := Nat.lt_of_lt_of_le hgd S5.bel.size
              obtain ⟨gr, hs5, _, _⟩ := HSt.out.sel S5
              have HS5 := hide hs5
              clear hs5 q6 A5 HSt hx hy S5 hb5x 
              have hb5 := Below.refl w5.heap.size w5
              have A6 : Hid (∀ (W' : World) (z : Int), z = ((x.toNat * 256 + y.toNat : Nat) : Int) → Below w5.heap.size w5 W' → Calls Ybaf.prog 6 #[.int .i64 (cur : Nat), .int .u16 z] W' fun e w' => e = .returned (.int .i64 (k : Nat)) ∧ Below w5.heap.size w5 w' ∧ w'.cell? ⟨gd, od, none⟩ = some (.int .u8 x.toNat) ∧ w'.cell? ⟨gd, od + 1, none⟩ = some (.int .u8 y.toNat)) := fun W' z hz h => by
                rw [hz]
                refine (M6.out W').mono ?_
                rintro e w' ⟨rfl, hb⟩
                have hb' := h.trans (hb.mono h.size)
                exact ⟨rfl, hb', (hb'.cell (by simpa using hgd5)).trans hx5, (hb'.cell (by simpa using hgd5)).trans hy5⟩
              clear M6
              go_upto_region 28 with fail
              go_region_held3 (fun w' => w'.cell? ⟨gd, od, none⟩ = some (.int .u8 x.toNat) ∧ w'.cell? ⟨gd, od + 1, none⟩ = some (.int .u8 y.toNat)) (first | (exact ⟨by assumption, by assumption⟩))
                (first | (go_at_call 6; refine (A6.out _ _ (by first | exact EBO.out) (by first | assumption | exact Below.drew (by assumption))).mono ?_; rintro e w6 ⟨rfl, hb6, yy1, yy2⟩))
              have HS6 := hide (HS5.out.up hb6)
              clear HS5 A6 hb6 hx5 hy5 yy1 yy2 hb5 hgd5 EBO
              have A7 := hide (want_any hk w6)
              have kk0 : ¬ (k : Int) < 0 := by omega
              have kk1 : (0 : Int) ≤ (k : Int) := by omega
              have kk2 : (k : Int) < 6 := by omega
              have L1 := (resp_len k).1
              have L2 := (resp_len k).2
              go_wp2_with fail
              refine A7.out.mono ?_
              rintro e w7 ⟨g7, rfl, Bf7, hg7, hg7', B7⟩
              have HS7 := hide (HS6.out.up B7)
              have SL7 := hide (Bf7.slice hg7 (by unfold maxLen; omega))
              clear HS6 A7 B7 Bf7
              have q3 := HS7.out.card.cur
              have q6 := HS7.out.card.resp
              have qf := HS7.out.fil k hk
              have hpe := fun W => ptr_neq W ⟨s.b k, 0, none⟩
              have EQ : Hid (∀ m : Nat, Calls Ybaf.prog 8 #[.slice (some ⟨gr, 0, none⟩) (respOf k).length (respOf k).length, .slice (some ⟨g7, 0, none⟩) (respOf k).length (respOf k).length] (w7.drewN m) fun e w' => e = .returned (.bool true) ∧ w' = w7.drewN m) := fun m =>
                equal_any (HS7.out.up (below_drewN (Below.refl _ _) m)).resp (SL7.out.up (W := w7.drewN m) (fun _ _ => rfl))
              go_upto_region 34 with fail
              generalize bits .or .u16 40704 ((respOf k).length : Int) = SW at *
              go_quiet ((go_at_call 8; exact Calls.quiet_of_same (EQ.out _)))
              have HSe := hide (HS7.out.up (below_drewN (Below.refl _ _) nq))
              generalize w7.drewN nq = We at *
              clear q3 q6 qf hpe HS7 EQ SL7
              go_wp2_with fail
              go_roundg (n - (i + 1))
              case measure => omega
              case rel => exact ⟨i + 1, k, _, _, rfl, rfl, by omega, rfl, hk, HSe⟩
      case neg =>
        have e3 : ¬ (md : Int) % 5 = 3 := by omega
        by_cases h4 : md % 5 = 4
        case neg =>
          have e4 : ¬ (md : Int) % 5 = 4 := by omega
          go_upto_region 20 with fail
          clear u0 u1 u2 u3 u4 u5
          obtain ⟨x, hx8⟩ : ∃ x : UInt8, x.toNat = T / 256 := ⟨UInt8.ofNat (T / 256), by simp; omega⟩
          obtain ⟨y, hy8⟩ : ∃ y : UInt8, y.toNat = T % 256 := ⟨UInt8.ofNat (T % 256), by simp⟩
          have ex : ((T : Int) / 256) = ((x.toNat : Nat) : Int) := by omega
          have ey : ((T : Int) % 256) = ((y.toNat : Nat) : Int) := by omega
          rw [ex, ey]
          obtain ⟨z1, z2, z3⟩ := alloc1 Wd (Obj.cells #[.int .u8 x.toNat, .int .u8 y.toNat] 5)
          have HSu := hide (HSt.out.up z2)
          have hgne : Wd.heap.size ≠ cb := by have := HSt.out.l1; have := HSt.out.l2; have := HSt.out.l3; omega
          generalize Wd.alloc (Obj.cells #[.int .u8 x.toNat, .int .u8 y.toNat] 5) = Wf at *
          have hx : Wf.cell? ⟨Wd.heap.size, 0, none⟩ = some (.int .u8 x.toNat) := by simp [World.cell?, z3]
          have hy : Wf.cell? ⟨Wd.heap.size, 1, none⟩ = some (.int .u8 y.toNat) := by simp [World.cell?, z3]
          have hgd : Wd.heap.size < Wf.heap.size := by omega
          clear HSt z1 z2 z3 ex ey hx8 hy8 htl hDD hul
          generalize Wd.heap.size = gd at *
          have hxl := x.toNat_lt
          have hyl := y.toNat_lt
          have A5 := hide (file_two HSu.out.tree (Nat.le_refl _) hcur HSu.out.card gd 0 2 x y hx hy hgd)
          have M6 := hide (fun W : World => model_any cur (x.toNat * 256 + y.toNat) hcur (by omega) W)
          have hP : ∀ k, pick (dirOf cur) (x.toNat * 256 + y.toNat) = some k → k < 6 := fun k => pick_lt
          have EBO : Hid (bits .or .u16 (IntKind.u16.wrap (IntKind.u16.wrap (x.toNat : Int) * 256)) (IntKind.u16.wrap (y.toNat : Int)) = ((x.toNat * 256 + y.toNat : Nat) : Int)) := by
            show bits _ _ _ _ = _
            rw [wraps_u16 (x.toNat : Int) (by omega) (by omega), wraps_u16 (y.toNat : Int) (by omega) (by omega), wraps_u16 ((x.toNat : Int) * 256) (by omega) (by omega)]
            rw [bits_join .u16 16 (by decide) wraps_u16 8 _ _ (by omega) (by omega) (by omega) (by omega) (by omega) (by omega)]
            omega
          have q6 := HSu.out.card.resp
          generalize pick (dirOf cur) (x.toNat * 256 + y.toNat) = P at *
          cases P with
          | none =>
            as_aux_lemma =>
              clear hP
              go_wp2_with fail
              refine A5.out.mono ?_
              rintro e w5 ⟨rfl, B5⟩
              have HS5 := hide (HSu.out.up B5)
              have hx5 := (B5.cell (p := ⟨gd, 0, none⟩) (by simpa using hgd)).trans hx
              have hy5 := (B5.cell (p := ⟨gd, 1, none⟩) (by simpa using hgd)).trans hy
              have hgd5 : gd < w5.heap.size := Nat.lt_of_lt_of_le hgd B5.size
              clear q6 A5 HSu hx hy B5 
              have hb5 := Below.refl w5.heap.size w5
              have A6 : Hid (∀ (W' : World) (z : Int), z = ((x.toNat * 256 + y.toNat : Nat) : Int) → Below w5.heap.size w5 W' → Calls Ybaf.prog 6 #[.int .i64 (cur : Nat), .int .u16 z] W' fun e w' => e = .returned (.int .i64 (-1)) ∧ Below w5.heap.size w5 w' ∧ w'.cell? ⟨gd, 0, none⟩ = some (.int .u8 x.toNat) ∧ w'.cell? ⟨gd, 1, none⟩ = some (.int .u8 y.toNat)) := fun W' z hz h => by
                rw [hz]
                refine (M6.out W').mono ?_
                rintro e w' ⟨rfl, hb⟩
                have hb' := h.trans (hb.mono h.size)
                exact ⟨rfl, hb', (hb'.cell (by simpa using hgd5)).trans hx5, (hb'.cell (by simpa using hgd5)).trans hy5⟩
              clear M6
              go_upto_region 28 with fail
              go_region_held3 (fun w' => w'.cell? ⟨gd, 0, none⟩ = some (.int .u8 x.toNat) ∧ w'.cell? ⟨gd, 1, none⟩ = some (.int .u8 y.toNat)) (first | (exact ⟨by assumption, by assumption⟩))
                (first | (go_at_call 6; refine (A6.out _ _ (by first | exact EBO.out) (by first | assumption | exact Below.drew (by assumption))).mono ?_; rintro e w6 ⟨rfl, hb6, yy1, yy2⟩))
              have HS6 := hide (HS5.out.up hb6)
              clear HS5 A6 hb6 hx5 hy5 yy1 yy2 hb5 hgd5 EBO
              as_aux_lemma =>
                have q3 := HS6.out.card.cur
                have q6 := HS6.out.card.resp
                have qf := HS6.out.fil cur hcur
                have ic : (cur : Int) < 6 := by omega
                have hpe := fun W => ptr_neq W ⟨s.b cur, 0, none⟩
                go_upto_region 37 with fail
                go_quiet (fail)
                have HSe := hide (HS6.out.up (below_drewN (Below.refl _ _) nq))
                generalize w6.drewN nq = We at *
                clear q3 q6 qf hpe HS6
                have q6 := HSe.out.card.resp
                have EQ := hide (equal_any HSe.out.resp HSe.out.resp)
                have hn1 := fun W => sl_nil W
                rcases HSe.out.form with rfl | ⟨gr, nr, rfl⟩
                all_goals
                  try have hn2 := fun W => sl_some W ⟨gr, 0, none⟩ nr nr
                  go_wp2_with (go_at_call 8; refine EQ.out.mono ?_; rintro e We ⟨rfl, rfl⟩)
                  go_roundg (n - (i + 1))
                  case measure => omega
                  case rel => exact ⟨i + 1, cur, _, _, rfl, rfl, by omega, rfl, hcur, HSe⟩
          | some k =>
            as_aux_lemma =>
              have hk := hP k rfl
              clear hP
              go_wp2_with fail
              refine A5.out.mono ?_
              rintro e w5 ⟨rfl, S5⟩
              have hb5x : w5.heap[gd]? = Wf.heap[gd]? := by
                rcases Nat.lt_or_gt_of_ne hgne with h | h
                · exact S5.bel.block _ h
                · exact S5.far _ h hgd
              have hx5 := (World.cell?_of_block (a := ⟨gd, 0, none⟩) hb5x).trans hx
              have hy5 := (World.cell?_of_block (a := ⟨gd, 1, none⟩) hb5x).trans hy
              have hgd5 : gd < w5.heap.size := Nat.lt_of_lt_of_le hgd S5.bel.size
              obtain ⟨gr, hs5, _, _⟩ := HSu.out.sel S5
              have HS5 := hide hs5
              clear hs5 q6 A5 HSu hx hy S5 hb5x 
              have hb5 := Below.refl w5.heap.size w5
              have A6 : Hid (∀ (W' : World) (z : Int), z = ((x.toNat * 256 + y.toNat : Nat) : Int) → Below w5.heap.size w5 W' → Calls Ybaf.prog 6 #[.int .i64 (cur : Nat), .int .u16 z] W' fun e w' => e = .returned (.int .i64 (k : Nat)) ∧ Below w5.heap.size w5 w' ∧ w'.cell? ⟨gd, 0, none⟩ = some (.int .u8 x.toNat) ∧ w'.cell? ⟨gd, 1, none⟩ = some (.int .u8 y.toNat)) := fun W' z hz h => by
                rw [hz]
                refine (M6.out W').mono ?_
                rintro e w' ⟨rfl, hb⟩
                have hb' := h.trans (hb.mono h.size)
                exact ⟨rfl, hb', (hb'.cell (by simpa using hgd5)).trans hx5, (hb'.cell (by simpa using hgd5)).trans hy5⟩
              clear M6
              go_upto_region 28 with fail
              go_region_held3 (fun w' => w'.cell? ⟨gd, 0, none⟩ = some (.int .u8 x.toNat) ∧ w'.cell? ⟨gd, 1, none⟩ = some (.int .u8 y.toNat)) (first | (exact ⟨by assumption, by assumption⟩))
                (first | (go_at_call 6; refine (A6.out _ _ (by first | exact EBO.out) (by first | assumption | exact Below.drew (by assumption))).mono ?_; rintro e w6 ⟨rfl, hb6, yy1, yy2⟩))
              have HS6 := hide (HS5.out.up hb6)
              clear HS5 A6 hb6 hx5 hy5 yy1 yy2 hb5 hgd5 EBO
              have A7 := hide (want_any hk w6)
              have kk0 : ¬ (k : Int) < 0 := by omega
              have kk1 : (0 : Int) ≤ (k : Int) := by omega
              have kk2 : (k : Int) < 6 := by omega
              have L1 := (resp_len k).1
              have L2 := (resp_len k).2
              go_wp2_with fail
              refine A7.out.mono ?_
              rintro e w7 ⟨g7, rfl, Bf7, hg7, hg7', B7⟩
              have HS7 := hide (HS6.out.up B7)
              have SL7 := hide (Bf7.slice hg7 (by unfold maxLen; omega))
              clear HS6 A7 B7 Bf7
              have q3 := HS7.out.card.cur
              have q6 := HS7.out.card.resp
              have qf := HS7.out.fil k hk
              have hpe := fun W => ptr_neq W ⟨s.b k, 0, none⟩
              have EQ : Hid (∀ m : Nat, Calls Ybaf.prog 8 #[.slice (some ⟨gr, 0, none⟩) (respOf k).length (respOf k).length, .slice (some ⟨g7, 0, none⟩) (respOf k).length (respOf k).length] (w7.drewN m) fun e w' => e = .returned (.bool true) ∧ w' = w7.drewN m) := fun m =>
                equal_any (HS7.out.up (below_drewN (Below.refl _ _) m)).resp (SL7.out.up (W := w7.drewN m) (fun _ _ => rfl))
              go_upto_region 34 with fail
              generalize bits .or .u16 40704 ((respOf k).length : Int) = SW at *
              go_quiet ((go_at_call 8; exact Calls.quiet_of_same (EQ.out _)))
              have HSe := hide (HS7.out.up (below_drewN (Below.refl _ _) nq))
              generalize w7.drewN nq = We at *
              clear q3 q6 qf hpe HS7 EQ SL7
              go_wp2_with fail
              go_roundg (n - (i + 1))
              case measure => omega
              case rel => exact ⟨i + 1, k, _, _, rfl, rfl, by omega, rfl, hk, HSe⟩
        case pos =>
          have e4 : (md : Int) % 5 = 4 := by omega
          by_cases hp : p1 = 0 ∧ p2 = 0
          case pos =>
            have u2' : Wd.cell? ⟨nb, 2, none⟩ = some (.int .u8 0) := by rw [u2, hp.1]; rfl
            have u3' : Wd.cell? ⟨nb, 3, none⟩ = some (.int .u8 0) := by rw [u3, hp.2]; rfl
            clear u2 u3
            go_upto_region 20 with fail
            clear u0 u1 u2' u3' u4 u5
            obtain ⟨x, hx8⟩ : ∃ x : UInt8, x.toNat = T / 256 := ⟨UInt8.ofNat (T / 256), by simp; omega⟩
            obtain ⟨y, hy8⟩ : ∃ y : UInt8, y.toNat = T % 256 := ⟨UInt8.ofNat (T % 256), by simp⟩
            have ex : ((T : Int) / 256) = ((x.toNat : Nat) : Int) := by omega
            have ey : ((T : Int) % 256) = ((y.toNat : Nat) : Int) := by omega
            rw [ex, ey]
            obtain ⟨z1, z2, z3⟩ := alloc1 Wd (Obj.cells #[.int .u8 x.toNat, .int .u8 y.toNat] 5)
            have HSu := hide (HSt.out.up z2)
            have hgne : Wd.heap.size ≠ cb := by have := HSt.out.l1; have := HSt.out.l2; have := HSt.out.l3; omega
            generalize Wd.alloc (Obj.cells #[.int .u8 x.toNat, .int .u8 y.toNat] 5) = Wf at *
            have hx : Wf.cell? ⟨Wd.heap.size, 0, none⟩ = some (.int .u8 x.toNat) := by simp [World.cell?, z3]
            have hy : Wf.cell? ⟨Wd.heap.size, 1, none⟩ = some (.int .u8 y.toNat) := by simp [World.cell?, z3]
            have hgd : Wd.heap.size < Wf.heap.size := by omega
            clear HSt z1 z2 z3 ex ey hx8 hy8 htl hDD hul
            generalize Wd.heap.size = gd at *
            have hxl := x.toNat_lt
            have hyl := y.toNat_lt
            have A5 := hide (file_two HSu.out.tree (Nat.le_refl _) hcur HSu.out.card gd 0 2 x y hx hy hgd)
            have M6 := hide (fun W : World => model_any cur (x.toNat * 256 + y.toNat) hcur (by omega) W)
            have hP : ∀ k, pick (dirOf cur) (x.toNat * 256 + y.toNat) = some k → k < 6 := fun k => pick_lt
            have EBO : Hid (bits .or .u16 (IntKind.u16.wrap (IntKind.u16.wrap (x.toNat : Int) * 256)) (IntKind.u16.wrap (y.toNat : Int)) = ((x.toNat * 256 + y.toNat : Nat) : Int)) := by
              show bits _ _ _ _ = _
              rw [wraps_u16 (x.toNat : Int) (by omega) (by omega), wraps_u16 (y.toNat : Int) (by omega) (by omega), wraps_u16 ((x.toNat : Int) * 256) (by omega) (by omega)]
              rw [bits_join .u16 16 (by decide) wraps_u16 8 _ _ (by omega) (by omega) (by omega) (by omega) (by omega) (by omega)]
              omega
            have q6 := HSu.out.card.resp
            generalize pick (dirOf cur) (x.toNat * 256 + y.toNat) = P at *
            cases P with
            | none =>
              as_aux_lemma =>
                clear hP
                go_wp2_with fail
                refine A5.out.mono ?_
                rintro e w5 ⟨rfl, B5⟩
                have HS5 := hide (HSu.out.up B5)
                have hx5 := (B5.cell (p := ⟨gd, 0, none⟩) (by simpa using hgd)).trans hx
                have hy5 := (B5.cell (p := ⟨gd, 1, none⟩) (by simpa using hgd)).trans hy
                have hgd5 : gd < w5.heap.size := Nat.lt_of_lt_of_le hgd B5.size
                clear q6 A5 HSu hx hy B5 
                have hb5 := Below.refl w5.heap.size w5
                have A6 : Hid (∀ (W' : World) (z : Int), z = ((x.toNat * 256 + y.toNat : Nat) : Int) → Below w5.heap.size w5 W' → Calls Ybaf.prog 6 #[.int .i64 (cur : Nat), .int .u16 z] W' fun e w' => e = .returned (.int .i64 (-1)) ∧ Below w5.heap.size w5 w' ∧ w'.cell? ⟨gd, 0, none⟩ = some (.int .u8 x.toNat) ∧ w'.cell? ⟨gd, 1, none⟩ = some (.int .u8 y.toNat)) := fun W' z hz h => by
                  rw [hz]
                  refine (M6.out W').mono ?_
                  rintro e w' ⟨rfl, hb⟩
                  have hb' := h.trans (hb.mono h.size)
                  exact ⟨rfl, hb', (hb'.cell (by simpa using hgd5)).trans hx5, (hb'.cell (by simpa using hgd5)).trans hy5⟩
                clear M6
                go_upto_region 28 with fail
                go_region_held3 (fun w' => w'.cell? ⟨gd, 0, none⟩ = some (.int .u8 x.toNat) ∧ w'.cell? ⟨gd, 1, none⟩ = some (.int .u8 y.toNat)) (first | (exact ⟨by assumption, by assumption⟩))
                  (first | (go_at_call 6; refine (A6.out _ _ (by first | exact EBO.out) (by first | assumption | exact Below.drew (by assumption))).mono ?_; rintro e w6 ⟨rfl, hb6, yy1, yy2⟩))
                have HS6 := hide (HS5.out.up hb6)
                clear HS5 A6 hb6 hx5 hy5 yy1 yy2 hb5 hgd5 EBO
                as_aux_lemma =>
                  have q3 := HS6.out.card.cur
                  have q6 := HS6.out.card.resp
                  have qf := HS6.out.fil cur hcur
                  have ic : (cur : Int) < 6 := by omega
                  have hpe := fun W => ptr_neq W ⟨s.b cur, 0, none⟩
                  go_upto_region 37 with fail
                  go_quiet (fail)
                  have HSe := hide (HS6.out.up (below_drewN (Below.refl _ _) nq))
                  generalize w6.drewN nq = We at *
                  clear q3 q6 qf hpe HS6
                  have q6 := HSe.out.card.resp
                  have EQ := hide (equal_any HSe.out.resp HSe.out.resp)
                  have hn1 := fun W => sl_nil W
                  rcases HSe.out.form with rfl | ⟨gr, nr, rfl⟩
                  all_goals
                    try have hn2 := fun W => sl_some W ⟨gr, 0, none⟩ nr nr
                    go_wp2_with (go_at_call 8; refine EQ.out.mono ?_; rintro e We ⟨rfl, rfl⟩)
                    go_roundg (n - (i + 1))
                    case measure => omega
                    case rel => exact ⟨i + 1, cur, _, _, rfl, rfl, by omega, rfl, hcur, HSe⟩
            | some k =>
              as_aux_lemma =>
                have hk := hP k rfl
                clear hP
                go_wp2_with fail
                refine A5.out.mono ?_
                rintro e w5 ⟨rfl, S5⟩
                have hb5x : w5.heap[gd]? = Wf.heap[gd]? := by
                  rcases Nat.lt_or_gt_of_ne hgne with h | h
                  · exact S5.bel.block _ h
                  · exact S5.far _ h hgd
                have hx5 := (World.cell?_of_block (a := ⟨gd, 0, none⟩) hb5x).trans hx
                have hy5 := (World.cell?_of_block (a := ⟨gd, 1, none⟩) hb5x).trans hy
                have hgd5 : gd < w5.heap.size := Nat.lt_of_lt_of_le hgd S5.bel.size
                obtain ⟨gr, hs5, _, _⟩ := HSu.out.sel S5
                have HS5 := hide hs5
                clear hs5 q6 A5 HSu hx hy S5 hb5x 
                have hb5 := Below.refl w5.heap.size w5
                have A6 : Hid (∀ (W' : World) (z : Int), z = ((x.toNat * 256 + y.toNat : Nat) : Int) → Below w5.heap.size w5 W' → Calls Ybaf.prog 6 #[.int .i64 (cur : Nat), .int .u16 z] W' fun e w' => e = .returned (.int .i64 (k : Nat)) ∧ Below w5.heap.size w5 w' ∧ w'.cell? ⟨gd, 0, none⟩ = some (.int .u8 x.toNat) ∧ w'.cell? ⟨gd, 1, none⟩ = some (.int .u8 y.toNat)) := fun W' z hz h => by
                  rw [hz]
                  refine (M6.out W').mono ?_
                  rintro e w' ⟨rfl, hb⟩
                  have hb' := h.trans (hb.mono h.size)
                  exact ⟨rfl, hb', (hb'.cell (by simpa using hgd5)).trans hx5, (hb'.cell (by simpa using hgd5)).trans hy5⟩
                clear M6
                go_upto_region 28 with fail
                go_region_held3 (fun w' => w'.cell? ⟨gd, 0, none⟩ = some (.int .u8 x.toNat) ∧ w'.cell? ⟨gd, 1, none⟩ = some (.int .u8 y.toNat)) (first | (exact ⟨by assumption, by assumption⟩))
                  (first | (go_at_call 6; refine (A6.out _ _ (by first | exact EBO.out) (by first | assumption | exact Below.drew (by assumption))).mono ?_; rintro e w6 ⟨rfl, hb6, yy1, yy2⟩))
                have HS6 := hide (HS5.out.up hb6)
                clear HS5 A6 hb6 hx5 hy5 yy1 yy2 hb5 hgd5 EBO
                have A7 := hide (want_any hk w6)
                have kk0 : ¬ (k : Int) < 0 := by omega
                have kk1 : (0 : Int) ≤ (k : Int) := by omega
                have kk2 : (k : Int) < 6 := by omega
                have L1 := (resp_len k).1
                have L2 := (resp_len k).2
                go_wp2_with fail
                refine A7.out.mono ?_
                rintro e w7 ⟨g7, rfl, Bf7, hg7, hg7', B7⟩
                have HS7 := hide (HS6.out.up B7)
                have SL7 := hide (Bf7.slice hg7 (by unfold maxLen; omega))
                clear HS6 A7 B7 Bf7
                have q3 := HS7.out.card.cur
                have q6 := HS7.out.card.resp
                have qf := HS7.out.fil k hk
                have hpe := fun W => ptr_neq W ⟨s.b k, 0, none⟩
                have EQ : Hid (∀ m : Nat, Calls Ybaf.prog 8 #[.slice (some ⟨gr, 0, none⟩) (respOf k).length (respOf k).length, .slice (some ⟨g7, 0, none⟩) (respOf k).length (respOf k).length] (w7.drewN m) fun e w' => e = .returned (.bool true) ∧ w' = w7.drewN m) := fun m =>
                  equal_any (HS7.out.up (below_drewN (Below.refl _ _) m)).resp (SL7.out.up (W := w7.drewN m) (fun _ _ => rfl))
                go_upto_region 34 with fail
                generalize bits .or .u16 40704 ((respOf k).length : Int) = SW at *
                go_quiet ((go_at_call 8; exact Calls.quiet_of_same (EQ.out _)))
                have HSe := hide (HS7.out.up (below_drewN (Below.refl _ _) nq))
                generalize w7.drewN nq = We at *
                clear q3 q6 qf hpe HS7 EQ SL7
                go_wp2_with fail
                go_roundg (n - (i + 1))
                case measure => omega
                case rel => exact ⟨i + 1, k, _, _, rfl, rfl, by omega, rfl, hk, HSe⟩
          case neg =>
            go_upto_region 20 with fail
            clear u0 u1 u2 u3 u4 u5
            obtain ⟨x, hx8⟩ : ∃ x : UInt8, x.toNat = T / 256 := ⟨UInt8.ofNat (T / 256), by simp; omega⟩
            obtain ⟨y, hy8⟩ : ∃ y : UInt8, y.toNat = T % 256 := ⟨UInt8.ofNat (T % 256), by simp⟩
            have ex : ((T : Int) / 256) = ((x.toNat : Nat) : Int) := by omega
            have ey : ((T : Int) % 256) = ((y.toNat : Nat) : Int) := by omega
            rw [ex, ey]
            obtain ⟨z1, z2, z3⟩ := alloc1 Wd (Obj.cells #[.int .u8 x.toNat, .int .u8 y.toNat] 5)
            have HSu := hide (HSt.out.up z2)
            have hgne : Wd.heap.size ≠ cb := by have := HSt.out.l1; have := HSt.out.l2; have := HSt.out.l3; omega
            generalize Wd.alloc (Obj.cells #[.int .u8 x.toNat, .int .u8 y.toNat] 5) = Wf at *
            have hx : Wf.cell? ⟨Wd.heap.size, 0, none⟩ = some (.int .u8 x.toNat) := by simp [World.cell?, z3]
            have hy : Wf.cell? ⟨Wd.heap.size, 1, none⟩ = some (.int .u8 y.toNat) := by simp [World.cell?, z3]
            have hgd : Wd.heap.size < Wf.heap.size := by omega
            clear HSt z1 z2 z3 ex ey hx8 hy8 htl hDD hul
            generalize Wd.heap.size = gd at *
            have q6 := HSu.out.card.resp
            go_wp2_with fail
            refine (file_p p1 p2 hp _ _ _ _ Wf).mono ?_
            rintro e Wg ⟨rfl, rfl⟩
            clear q6
            have hp1 : (p1 : Int) < 256 := by omega
            have hp2 : (p2 : Int) < 256 := by omega
            by_cases h1 : p1 = 0
            case pos =>
              have h5 : (p1 : Int) = 0 := by omega
              have h2 : ((p2 : Int) == 0) = false := by simpa using (show (p2 : Int) ≠ 0 by omega)
              have h3 : ¬ (p2 : Int) = 0 := by omega
              as_aux_lemma =>
                have q3 := HSu.out.card.cur
                have q6 := HSu.out.card.resp
                have qf := HSu.out.fil cur hcur
                have ic : (cur : Int) < 6 := by omega
                have hpe := fun W => ptr_neq W ⟨s.b cur, 0, none⟩
                go_upto_region 37 with fail
                go_quiet (fail)
                have HSe := hide (HSu.out.up (below_drewN (Below.refl _ _) nq))
                generalize Wg.drewN nq = We at *
                clear q3 q6 qf hpe HSu
                have q6 := HSe.out.card.resp
                have EQ := hide (equal_any HSe.out.resp HSe.out.resp)
                have hn1 := fun W => sl_nil W
                rcases HSe.out.form with rfl | ⟨gr, nr, rfl⟩
                all_goals
                  try have hn2 := fun W => sl_some W ⟨gr, 0, none⟩ nr nr
                  go_wp2_with (go_at_call 8; refine EQ.out.mono ?_; rintro e We ⟨rfl, rfl⟩)
                  go_roundg (n - (i + 1))
                  case measure => omega
                  case rel => exact ⟨i + 1, cur, _, _, rfl, rfl, by omega, rfl, hcur, HSe⟩
            case neg =>
              have h2 : ((p1 : Int) == 0) = false := by simpa using (show (p1 : Int) ≠ 0 by omega)
              have h3 : ¬ (p1 : Int) = 0 := by omega
              as_aux_lemma =>
                have q3 := HSu.out.card.cur
                have q6 := HSu.out.card.resp
                have qf := HSu.out.fil cur hcur
                have ic : (cur : Int) < 6 := by omega
                have hpe := fun W => ptr_neq W ⟨s.b cur, 0, none⟩
                go_upto_region 37 with fail
                go_quiet (fail)
                have HSe := hide (HSu.out.up (below_drewN (Below.refl _ _) nq))
                generalize Wg.drewN nq = We at *
                clear q3 q6 qf hpe HSu
                have q6 := HSe.out.card.resp
                have EQ := hide (equal_any HSe.out.resp HSe.out.resp)
                have hn1 := fun W => sl_nil W
                rcases HSe.out.form with rfl | ⟨gr, nr, rfl⟩
                all_goals
                  try have hn2 := fun W => sl_some W ⟨gr, 0, none⟩ nr nr
                  go_wp2_with (go_at_call 8; refine EQ.out.mono ?_; rintro e We ⟨rfl, rfl⟩)
                  go_roundg (n - (i + 1))
                  case measure => omega
                  case rel => exact ⟨i + 1, cur, _, _, rfl, rfl, by omega, rfl, hcur, HSe⟩
end Go.Proofs.YbulkdcggFmt
