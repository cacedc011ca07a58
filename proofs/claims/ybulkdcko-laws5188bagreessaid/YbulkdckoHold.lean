/-
  THE WALK of hold.
-/
import Derived.Test.YbulkdckoFront
namespace Go.Proofs.Ybulkdcko
open Go.RowKit

theorem setCell_comm (w : World) {a b : Addr} (x y : Value) (h : a.block ≠ b.block) : (w.setCell a x).setCell b y = (w.setCell b y).setCell a x := by
  unfold World.setCell
  simp only [World.mk.injEq, and_true]
  apply Array.ext_getElem?
  intro i
  simp only [Array.getElem?_modify]
  by_cases h1 : a.block = i
  · by_cases h2 : b.block = i
    · exact absurd (h1.trans h2.symm) h
    · simp [h1, h2]
  · by_cases h2 : b.block = i
    · simp [h1, h2]
    · simp [h1, h2]
theorem step_fill {M : Nat} {w : World} {L : Lay} (h : Pic w M L) {k : Nat} {b : Blk} (hb : L.bs[k]? = some b) {j : Nat} (hj : j < b.ls.length) (x : Int) (v : Value) (hv : v = .int .i64 (heldOf (b.ls.set j x) : Nat)) (c : Int) :
    Step M w (((w.setCell ⟨L.kb, L.ko + k * 2 + 1, none⟩ v).setCell ⟨L.gb, 3, none⟩ (.int .i64 c)).setCell ⟨b.lb, j, none⟩ (.int .i64 x)) L { L.put k b j x with count := c } := by
  have hm := List.mem_of_getElem? hb
  have hne : L.bs ≠ [] := fun e => by rw [e] at hm; simp at hm
  have s1 := step_put h hb hj x v hv
  have s2 : Step M ((w.setCell ⟨b.lb, j, none⟩ (.int .i64 x)).setCell ⟨L.kb, L.ko + k * 2 + 1, none⟩ v) (((w.setCell ⟨b.lb, j, none⟩ (.int .i64 x)).setCell ⟨L.kb, L.ko + k * 2 + 1, none⟩ v).setCell ⟨L.gb, 3, none⟩ (.int .i64 c)) (L.put k b j x) { L.put k b j x with count := c } := Step.setCell (L := L.put k b j x) (L' := { L.put k b j x with count := c }) s1.pic ⟨rfl, rfl, rfl, rfl, rfl⟩ rfl
  have e : ((w.setCell ⟨L.kb, L.ko + k * 2 + 1, none⟩ v).setCell ⟨L.gb, 3, none⟩ (.int .i64 c)).setCell ⟨b.lb, j, none⟩ (.int .i64 x) = ((w.setCell ⟨b.lb, j, none⟩ (.int .i64 x)).setCell ⟨L.kb, L.ko + k * 2 + 1, none⟩ v).setCell ⟨L.gb, 3, none⟩ (.int .i64 c) := by
    rw [setCell_comm (w.setCell ⟨L.kb, L.ko + k * 2 + 1, none⟩ v) _ _ (h.ne_l hm), setCell_comm w _ _ (h.ne_kl hm)]
  rw [e]
  exact s1.trans s2

theorem hdr_form (L : Lay) : ∃ a c, L.hdr = .slice a L.bs.length c := by
  by_cases h : L.bs = []
  · exact ⟨none, 0, by rw [Pic.hdr_none h, h]; rfl⟩
  · exact ⟨_, _, Pic.hdr_some h⟩
theorem step_bf {M : Nat} {w : World} {L : Lay} (h : Pic w M L) (a b : Int) : Step M w ((w.setCell ⟨L.gb, 1, none⟩ (.int .i64 a)).setCell ⟨L.gb, 2, none⟩ (.int .i64 b)) L { L with base := a, first := b } := by
  have s1 : Step M w (w.setCell ⟨L.gb, 1, none⟩ (.int .i64 a)) L { L with base := a } := Step.setCell (L' := { L with base := a }) h ⟨rfl, rfl, rfl, rfl, rfl⟩ rfl
  have s2 : Step M (w.setCell ⟨L.gb, 1, none⟩ (.int .i64 a)) ((w.setCell ⟨L.gb, 1, none⟩ (.int .i64 a)).setCell ⟨L.gb, 2, none⟩ (.int .i64 b)) { L with base := a } { L with base := a, first := b } := Step.setCell (L := { L with base := a }) (L' := { L with base := a, first := b }) s1.pic ⟨rfl, rfl, rfl, rfl, rfl⟩ rfl
  exact s1.trans s2

theorem total_le : ∀ {bs : List Blk}, (∀ b ∈ bs, b.ls.length ≤ 4096) → total bs ≤ bs.length * 4096
  | [], _ => Nat.le_refl _
  | a :: r, h => by
    have ih := total_le (bs := r) (fun b hb => h b (List.mem_cons_of_mem _ hb))
    have h1 := h a List.mem_cons_self
    have h2 : heldOf a.ls ≤ a.ls.length := List.countP_le_length
    unfold total at *
    simp only [List.map_cons, List.sum_cons, List.length_cons]
    omega

set_option maxHeartbeats 6400000 in
set_option maxRecDepth 100000 in
theorem hold_any {w : World} {M : Nat} {L : Lay} (h : Pic w M L) (hM : M ≤ w.heap.size) (v : Inv L) (n x : Int) (h0 : 0 ≤ n) (h9 : n < 9000) (hx : x ≠ -1) :
    Calls Yba.prog 5 #[.pointer (some ⟨L.gb, 0, none⟩), .int .i64 n, .int .i64 x] w fun e w' => e = .returned (.tuple #[]) ∧ ∃ L', Step M w w' L L' ∧ L'.gb = L.gb ∧ Inv L' ∧ ∀ m, view L' m = if m = n then x else view L m := by
  obtain ⟨f0, f1, f2, f3, f4, f5, ff⟩ := h.fields
  have ff1 := ff 1
  have ff2 := ff 2
  have hgl := h.lt
  obtain ⟨ha, hc, hh⟩ := hdr_form L
  rw [hh] at f0
  have HH := hide h
  have HV := hide v
  clear h v hh
  go_enter Yba.func5, Yba.ntmps5
  go_upto_if 15 with fail
  go_cut [15] from 16 to 23 (fun _ wx => ∃ L1, Step M w wx L L1 ∧ L1.gb = L.gb ∧ Rdy L1 n (view L))
  case first =>
    by_cases he : L.bs = []
    · have q0 : ((L.bs.length : Int) == 0) = true := by simp [he]
      have HE := hide he
      clear he
      go_wp2_with fail
      go_meet
      case rel => exact ⟨_, step_bf HH.out n n, rfl, rdy_none HV.out HE.out h0 h9⟩
    · have q0 : ((L.bs.length : Int) == 0) = false := by simpa using he
      have HE := hide he
      clear he
      go_wp2_with fail
      go_meet
      case rel => exact ⟨_, Step.refl HH.out, rfl, rdy_some HV.out HE.out n⟩
  case rest =>
    obtain ⟨L1, S1, hg1, R1⟩ := hcut
    have S1 := hide S1
    have R1 := hide R1
    clear f0 f1 f2 f3 f4 f5 ff ff1 ff2 hgl
    rw [← hg1]
    have HG := hide hg1
    clear hg1
    obtain ⟨f0, f1, f2, f3, f4, f5, ff⟩ := S1.out.pic.fields
    have ff0 := ff 0
    have ff1 := ff 1
    have hgl := S1.out.pic.lt
    go_upto_if 29 with fail
    go_cut [6, 7] from 29 to 70 (fun _ _ wx => ∃ L2, Step M w wx L L2 ∧ L2.gb = L1.gb ∧ Rdy L2 n (view L) ∧ L2.base ≤ n)
    case first =>
      by_cases hnb : n < L1.base
      · have hne1 : L1.bs ≠ [] := fun e => by have := (R1.out.emp e).1; omega
        have hb0 := R1.out.b0
        have hb1 := R1.out.b1
        have hfew1 := rdy_few R1.out
        rw [Pic.hdr_some hne1] at f0
        obtain ⟨m, hmq⟩ : ∃ m : Nat, (m : Int) = (L1.base - n + 4095) / 4096 := ⟨((L1.base - n + 4095) / 4096).toNat, by omega⟩
        have hm0 : 0 < m := by omega
        have hm9 : m ≤ 10 := by omega
        have hq : (L1.base - n + 4096 - 1) / 4096 = (m : Int) := by omega
        obtain ⟨WF, hmk, F0⟩ := front_start wc m (by omega)
        have F0 := hide F0
        have HNE := hide hne1
        have HMQ := hide hmq
        have HNB := hide hnb
        have hMc : M ≤ wc.heap.size := Nat.le_trans hM S1.out.bel.size
        have HP := hide S1.out.pic
        clear hne1 hmq
        go_upto_region 5 with fail
        clear hmk hq
        generalize decide (n < L1.base) = dd
        clear hnb
        go_loopg [7, 42] m (fun g s7 s42 wr => ∃ fs : List Blk, fs.length ≤ m ∧ g = m - fs.length ∧ s42 = .int .i64 (fs.length : Nat) ∧ Front wc wr m fs)
        case atStart => exact ⟨[], Nat.zero_le _, rfl, rfl, F0.out⟩
        case round =>
          clear F0
          obtain ⟨fs, hfm, hg, rfl, F⟩ := hrel
          have F := hide F
          by_cases hlt : fs.length < m
          · have hi1 : ((fs.length : Nat) : Int) < (m : Int) := by omega
            have HR := hide (repeat_any (w := wr.alloc (.cells #[.int .i64 (-1)] 2)) (g := wr.heap.size) (by rw [cell_of_cells (alloc1 wr _).2.2]; rfl) (by rw [(alloc1 wr _).1]; omega))
            have hbA := hide (alloc1 wr (.cells #[.int .i64 (-1)] 2)).2.1
            have hsA := hide (alloc1 wr (.cells #[.int .i64 (-1)] 2)).1
            go_wp2_with fail
            refine HR.out.mono ?_
            rintro e w1 ⟨lb, rfl, k1, fi, bl⟩
            have F2 := hide (F.out.more hlt (by have := hsA.out; omega) fi (hbA.out.trans (bl.mono (by have := hsA.out; omega))))
            have BW : Below wr.heap.size wr w1 := hbA.out.trans (bl.mono (by have := hsA.out; omega))
            obtain ⟨v1, hv1⟩ := F.out.cell (j := fs.length * 2) (by omega)
            have c1 : w1.cell? ⟨wc.heap.size, fs.length * 2, none⟩ = some v1 := (BW.cell (show wc.heap.size < wr.heap.size from F.out.lt)).trans hv1
            have c2 : w1.frozen? ⟨wc.heap.size, fs.length * 2, none⟩ = false := (BW.frozen (show wc.heap.size < wr.heap.size from F.out.lt)).trans (F.out.free _)
            clear HR hbA hsA k1 fi bl F hv1 BW
            go_wp2_with fail
            go_roundg (m - (fs.length + 1))
            case measure => omega
            case rel => exact ⟨_, by rw [List.length_append]; simp only [List.length_cons, List.length_nil]; omega, by rw [List.length_append]; rfl, by rw [List.length_append]; rfl, F2.out⟩
          · have hfl : fs.length = m := by omega
            subst hfl
            have hi1 : ¬ ((fs.length : Nat) : Int) < (fs.length : Int) := by omega
            have HI := hide (insert_any HP.out hMc HNE.out (by omega) F.out (by omega))
            have g0 : wr.cell? ⟨L1.gb, 0, none⟩ = some (.slice (some ⟨L1.kb, L1.ko, none⟩) L1.bs.length L1.kc) := (F.out.bel.cell hgl).trans f0
            have hgr : L1.gb < wr.heap.size := Nat.lt_trans hgl F.out.lt
            have HF := F
            clear F
            go_wp2_with fail
            refine HI.out.mono ?_
            rintro e w1 ⟨kb, ko, kc, rfl, k1, k2, st⟩
            have ST := hide (S1.out.trans (st (L1.base - (fs.length : Int) * 4096)))
            have c0 : w1.cell? ⟨L1.gb, 0, none⟩ = some (.slice (some ⟨L1.kb, L1.ko, none⟩) L1.bs.length L1.kc) := (World.cell?_of_block k1).trans f0
            have c1 : w1.cell? ⟨L1.gb, 1, none⟩ = some (.int .i64 L1.base) := (World.cell?_of_block k1).trans f1
            have d0 : w1.frozen? ⟨L1.gb, 0, none⟩ = false := (World.frozen?_of_block k1).trans ff0
            have d1 : w1.frozen? ⟨L1.gb, 1, none⟩ = false := (World.frozen?_of_block k1).trans ff1
            clear HI st f0 f1 f2 f3 f4 f5 ff ff0 ff1 hgl k1 g0 hgr
            go_wp2_with fail
            go_meet
            case rel => exact ⟨_, ST.out, rfl, (rdy_front R1.out HNB.out h0 (fun f hf => (HF.out.lin f hf).2.2) HMQ.out kb ko kc).1, (rdy_front R1.out HNB.out h0 (fun f hf => (HF.out.lin f hf).2.2) HMQ.out kb ko kc).2⟩
      · go_wp2_with fail
        go_meet
        case rel => exact ⟨L1, S1.out, rfl, R1.out, by omega⟩
    case rest =>
      obtain ⟨L2, S2, hg2, R2, hb2⟩ := hcut
      have S2 := hide S2
      have R2 := hide R2
      have HB2 := hide hb2
      have HG2 := hide hg2
      clear f0 f1 f2 f3 f4 f5 ff ff0 ff1 hgl S1 R1 hb2
      rw [← hg2]
      clear hg2
      go_upto_region 11 with fail
      go_loopg [74] (n + 1 - L2.endN).toNat (fun g s74 wr => ∃ L3, g = (n + 1 - L3.endN).toNat ∧ Step M w wr L L3 ∧ L3.gb = L2.gb ∧ Rdy L3 n (view L) ∧ L3.base ≤ n)
      case atStart => exact ⟨L2, rfl, S2.out, rfl, R2.out, HB2.out⟩
      case round =>
        clear S2 R2 HB2
        obtain ⟨L3, hg, S3, hg3, R3, hb3⟩ := hrel
        have S3 := hide S3
        have R3 := hide R3
        have hM3 : M ≤ wr.heap.size := Nat.le_trans hM S3.out.bel.size
        have HE := hide (end_any S3.out.pic R3.out.sh.b1 R3.out.sh.b2 R3.out.sh.le)
        rw [hg3] at HE
        by_cases hlt : L3.endN ≤ n
        · have HL := hide hlt
          have HG := hide hg
          clear hg
          go_wp2_with fail
          refine HE.out.mono ?_
          rintro e w1 ⟨rfl, k, rfl⟩
          have S4 : Hid (Step M w (wr.drewN k) L L3) := S3.out.trans (Step.grew S3.out.pic (below_drewN (Below.refl _ _) k) hM3)
          clear S3 HE
          generalize wr.drewN k = w1 at *
          have HW := hide (grow_any S4.out.pic (Nat.le_trans hM S4.out.bel.size) R3.out.sh R3.out.last (fun e => by have := R3.out.emp e; omega) (by have := rdy_few R3.out; omega))
          rw [hg3] at HW
          go_wp2_with fail
          refine HW.out.mono ?_
          rintro e w2 ⟨rfl, L4, st, gr⟩
          have ST := hide (S4.out.trans st)
          have GR := hide gr
          clear st gr HW
          go_wp2_with fail
          go_roundg (n + 1 - L4.endN).toNat
          case measure => have := GR.out.endN; have := HG.out; omega
          case rel => exact ⟨L4, rfl, ST.out, GR.out.gb.trans hg3, rdy_grown R3.out GR.out HL.out h9, by rw [GR.out.base]; exact hb3⟩
        · obtain ⟨i, b, hn, hb, hj, hk⟩ := rdy_at R3.out hb3 (by omega)
          obtain ⟨y, hy⟩ : ∃ y, b.ls[i % 4096]? = some y := ⟨_, List.getElem?_eq_getElem hj⟩
          have FIN := hide (fun c hi la => inv_hold (c := c) (hi := hi) (la := la) R3.out HV.out.rng h0 h9 hx hn hb hj)
          have hi9 : i < 10000000 := by
            have := R3.out.b0
            omega
          have hj4 : i % 4096 < 4096 := by omega
          have HPl : Hid (∀ W, Pic W M L3 → Calls Yba.prog 7 #[.pointer (some ⟨L3.gb, 0, none⟩), .int .i64 n] W fun e w' => e = .returned (.tuple #[.pointer (some ⟨L3.kb, L3.ko + i / 4096 * 2, none⟩), .int .i64 ((i % 4096 : Nat) : Int)]) ∧ ∃ k, w' = W.drewN k) := fun W p => by
            have := place_any p i hi9 hk
            rw [← hn] at this
            exact this
          rw [hg3] at HPl
          have htot := total_le R3.out.sh.le
          have hfw := rdy_few R3.out
          have hcnt := R3.out.cnt
          have hheld : heldOf b.ls ≤ b.ls.length := List.countP_le_length
          have hbl := R3.out.sh.le b (List.mem_of_getElem? hb)
          have hc0 : 0 ≤ L3.count ∧ L3.count < 1000000 := by omega
          clear hn hi9 htot hfw hcnt
          generalize i / 4096 = k at *
          generalize i % 4096 = j at *
          have HB := hide hb
          clear hg hb
          go_wp2_with fail
          refine HE.out.mono ?_
          rintro e w1 ⟨rfl, k1, rfl⟩
          have S4 : Hid (Step M w (wr.drewN k1) L L3) := S3.out.trans (Step.grew S3.out.pic (below_drewN (Below.refl _ _) k1) hM3)
          clear S3 HE
          generalize wr.drewN k1 = w1 at *
          go_wp2_with fail
          refine (HPl.out w1 S4.out.pic).mono ?_
          rintro e w2 ⟨rfl, k2, rfl⟩
          have S5 : Hid (Step M w (w1.drewN k2) L L3) := S4.out.trans (Step.grew S4.out.pic (below_drewN (Below.refl _ _) k2) (Nat.le_trans hM S4.out.bel.size))
          clear S4 HPl
          generalize w1.drewN k2 = w2 at *
          obtain ⟨f0, f1, f2, f3, f4, f5, ff⟩ := S5.out.pic.fields
          obtain ⟨g1, g2, g3, g4⟩ := S5.out.pic.blk HB.out
          obtain ⟨l1, l2, l3⟩ := S5.out.pic.line (List.mem_of_getElem? HB.out) hy
          have hgl := S5.out.pic.lt
          have hm := List.mem_of_getElem? HB.out
          have n1 := S5.out.pic.ne_k (fun e => by rw [e] at hm; simp at hm)
          have n2 := S5.out.pic.ne_l hm
          have n3 := S5.out.pic.ne_kl hm
          rw [hg3] at f0 f1 f2 f3 f4 f5 ff hgl n1 n2
          have g4a := g4 (L3.ko + k * 2 + 1)
          have ff3 := ff 3
          have ff2 := ff 2
          have l3j := l3 j
          have hji : (j : Int) < (b.ls.length : Int) := by omega
          have hw1 : IntKind.i64.wrap ((heldOf b.ls : Int) + 1) = (heldOf b.ls : Int) + 1 := by rw [IntKind.wrap_i64]; omega
          have hw2 : IntKind.i64.wrap (L3.count + 1) = L3.count + 1 := by rw [IntKind.wrap_i64]; omega
          clear hm
          by_cases hyv : y = -1
          · subst hyv
            go_wp2_with fail
            refine (held_any _ _).mono ?_
            rintro e w3 ⟨rfl, rfl⟩
            rw [show decide ((-1 : Int) ≠ -1) = false from rfl]
            go_upto_region 18 with fail
            have S6 := hide (S5.out.trans (step_fill S5.out.pic HB.out hj x (.int .i64 ((heldOf b.ls : Int) + 1)) (by rw [heldOf_fill hy hx]; rfl) (L3.count + 1)))
            rw [hg3] at S6
            have FIN2 := hide (fun hi la => FIN.out (L3.count + 1) hi la (by rw [heldOf_fill hy hx]; omega))
            clear f0 f1 f2 f3 f4 f5 ff hgl n1 n2 n3 g1 g2 g3 g4 g4a ff2 ff3 l1 l2 l3 l3j FIN S5 hy
            generalize ((w3.setCell ⟨L3.kb, L3.ko + k * 2 + 1, none⟩ (.int .i64 ((heldOf b.ls : Int) + 1))).setCell ⟨L2.gb, 3, none⟩ (.int .i64 (L3.count + 1))).setCell ⟨b.lb, j, none⟩ (.int .i64 x) = w4 at *
            have f2 : w4.cell? ⟨L3.gb, 2, none⟩ = some (.int .i64 L3.first) := S6.out.pic.fields.2.2.1
            have ff2 : w4.frozen? ⟨L3.gb, 2, none⟩ = false := S6.out.pic.fields.2.2.2.2.2.2 2
            have hgl : L3.gb < w4.heap.size := S6.out.pic.lt
            rw [hg3] at f2 ff2 hgl
            go_upto_region 19 with fail
            have S7 : Hid (Step M w (w4.setCell ⟨L3.gb, 2, none⟩ (.int .i64 (min L3.first n))) L { L3.put k b j x with count := L3.count + 1, first := min L3.first n }) := S6.out.trans (Step.setCell (L := { L3.put k b j x with count := L3.count + 1 }) (L' := { L3.put k b j x with count := L3.count + 1, first := min L3.first n }) S6.out.pic ⟨rfl, rfl, rfl, rfl, rfl⟩ rfl)
            rw [hg3] at S7
            clear S6 f2 ff2 hgl
            generalize w4.setCell ⟨L2.gb, 2, none⟩ (.int .i64 (min L3.first n)) = w5 at *
            have HZ : Hid (Calls Yba.prog 14 #[.pointer (some ⟨L2.gb, 0, none⟩), .int .i64 n] w5 fun e w' => e = .returned (.tuple #[]) ∧ ∃ hi la, Step M w5 w' { L3.put k b j x with count := L3.count + 1, first := min L3.first n } { L3.put k b j x with count := L3.count + 1, first := min L3.first n, high := hi, last := la }) := by
              rw [← hg3]
              exact raise_any S7.out.pic n
            go_wp2_with fail
            refine HZ.out.mono ?_
            rintro e w6 ⟨rfl, hi, la, st⟩
            have S8 := hide (S7.out.trans st)
            clear st HZ S7
            go_wp2_with fail
            go_end0
            exact ⟨rfl, _, S8.out, hg3.trans (HG2.out.trans HG.out), (FIN2.out hi la).1, (FIN2.out hi la).2⟩
          · have hyb : decide (y ≠ -1) = true := by simp [hyv]
            go_wp2_with fail
            refine (held_any _ _).mono ?_
            rintro e w3 ⟨rfl, rfl⟩
            rw [hyb]
            go_upto_region 18 with fail
            have e3 : ({ L3.put k b j x with count := L3.count } : Lay) = L3.put k b j x := rfl
            have S6 := hide (S5.out.trans (step_over S5.out.pic HB.out hj x (heldOf_over hy hyv hx)))
            rw [← e3] at S6
            have FIN2 := hide (fun hi la => FIN.out L3.count hi la (by rw [heldOf_over hy hyv hx]; omega))
            clear f0 f1 f2 f3 f4 f5 ff hgl n1 n2 n3 g1 g2 g3 g4 g4a ff2 ff3 l1 l2 l3 l3j FIN S5 hy hyv hyb e3
            generalize w3.setCell ⟨b.lb, j, none⟩ (.int .i64 x) = w4 at *
            have f2 : w4.cell? ⟨L3.gb, 2, none⟩ = some (.int .i64 L3.first) := S6.out.pic.fields.2.2.1
            have ff2 : w4.frozen? ⟨L3.gb, 2, none⟩ = false := S6.out.pic.fields.2.2.2.2.2.2 2
            have hgl : L3.gb < w4.heap.size := S6.out.pic.lt
            rw [hg3] at f2 ff2 hgl
            go_upto_region 19 with fail
            have S7 : Hid (Step M w (w4.setCell ⟨L3.gb, 2, none⟩ (.int .i64 (min L3.first n))) L { L3.put k b j x with count := L3.count, first := min L3.first n }) := S6.out.trans (Step.setCell (L := { L3.put k b j x with count := L3.count }) (L' := { L3.put k b j x with count := L3.count, first := min L3.first n }) S6.out.pic ⟨rfl, rfl, rfl, rfl, rfl⟩ rfl)
            rw [hg3] at S7
            clear S6 f2 ff2 hgl
            generalize w4.setCell ⟨L2.gb, 2, none⟩ (.int .i64 (min L3.first n)) = w5 at *
            have HZ : Hid (Calls Yba.prog 14 #[.pointer (some ⟨L2.gb, 0, none⟩), .int .i64 n] w5 fun e w' => e = .returned (.tuple #[]) ∧ ∃ hi la, Step M w5 w' { L3.put k b j x with count := L3.count, first := min L3.first n } { L3.put k b j x with count := L3.count, first := min L3.first n, high := hi, last := la }) := by
              rw [← hg3]
              exact raise_any S7.out.pic n
            go_wp2_with fail
            refine HZ.out.mono ?_
            rintro e w6 ⟨rfl, hi, la, st⟩
            have S8 := hide (S7.out.trans st)
            clear st HZ S7
            go_wp2_with fail
            go_end0
            exact ⟨rfl, _, S8.out, hg3.trans (HG2.out.trans HG.out), (FIN2.out hi la).1, (FIN2.out hi la).2⟩
end Go.Proofs.Ybulkdcko
