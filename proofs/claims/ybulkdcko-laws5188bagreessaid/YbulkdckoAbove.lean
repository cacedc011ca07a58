/-
  THE WALKS of raise, slices.IndexFunc, entryAt, above.
-/
import Derived.Test.YbulkdckoPic
namespace Go.Proofs.Ybulkdcko
open Go.RowKit

/-- the first line that is not vacant -/
def findHeld (ls : List Int) : Int := match ls.findIdx? (fun x => decide (x ≠ -1)) with
  | some j => (j : Int)
  | none => -1

set_option maxHeartbeats 3200000 in
set_option maxRecDepth 100000 in
/-- slices.IndexFunc(lines[o:], isHeld) -/
theorem index_any {w : World} (g : Option Addr) (c : Nat) (ls : List Int) (hl : ls.length ≤ 4096) (hc : ls.length ≤ c) (hg : ls ≠ [] → ∃ b o, g = some ⟨b, o, none⟩ ∧ ∀ (j : Nat) (x : Int), ls[j]? = some x → w.cell? ⟨b, o + j, none⟩ = some (.int .i64 x)) :
    Calls Yba.prog 15 #[.slice g ls.length c, .func (.func 13) #[] #[]] w fun e w' => e = .returned (.int .i64 (findHeld ls)) ∧ w' = w := by
  have HG := hide hg
  clear hg
  go_enter Yba.func15, Yba.ntmps15
  go_wp2
  go_loopg [8] ls.length (fun gq s8 wr => ∃ i : Nat, s8 = .int .i64 (i : Nat) ∧ i ≤ ls.length ∧ gq = ls.length - i ∧ wr = w ∧ Hid (∀ j, j < i → ls[j]? = some (-1)))
  case atStart => exact ⟨0, rfl, by omega, by omega, rfl, fun j hj => absurd hj (by omega)⟩
  case round =>
    obtain ⟨i, rfl, hi, hq, rfl, H⟩ := hrel
    by_cases hlt : i < ls.length
    · obtain ⟨x, hx⟩ : ∃ x, ls[i]? = some x := ⟨_, List.getElem?_eq_getElem hlt⟩
      obtain ⟨b, o, rfl, hcell⟩ := HG.out (fun e => by subst e; simp at hlt)
      have hc0 := hcell i x hx
      have hlt' : (i : Int) < (ls.length : Int) := by omega
      clear hcell
      go_wp2_with fail
      refine (held_any x wr).mono ?_
      rintro e w1 ⟨rfl, rfl⟩
      by_cases hv : x = -1
      · have hd : decide (x ≠ -1) = false := by simpa using hv
        rw [hd]
        have H2 : Hid (∀ j, j < i + 1 → ls[j]? = some (-1)) := fun j hj => by
          rcases Nat.lt_or_ge j i with h | h
          · exact H.out j h
          · obtain rfl : j = i := by omega
            rw [hx, hv]
        clear H hd hc0
        go_wp2_with fail
        go_roundg (ls.length - (i + 1))
        case measure => omega
        case rel => exact ⟨i + 1, rfl, by omega, rfl, rfl, H2⟩
      · have hd : decide (x ≠ -1) = true := by simpa using hv
        rw [hd]
        have hf : Hid (findHeld ls = (i : Int)) := by
          have e : ls.findIdx? (fun x => decide (x ≠ -1)) = some i := by
            rw [List.findIdx?_eq_some_iff_getElem]
            refine ⟨hlt, ?_, fun j hj => ?_⟩
            · rw [List.getElem?_eq_getElem hlt] at hx
              rw [Option.some.inj hx]
              simpa using hv
            · have := H.out j hj
              rw [List.getElem?_eq_getElem (by omega)] at this
              rw [Option.some.inj this]
              simp
          show findHeld ls = _
          unfold findHeld
          rw [e]
        clear H hd
        go_wp2_with fail
        go_ret
        exact ⟨congrArg (fun z => Ending.returned (Value.int .i64 z)) hf.out.symm, rfl⟩
    · have e : i = ls.length := by omega
      subst e
      have hf : Hid (findHeld ls = -1) := by
        have e : ls.findIdx? (fun x => decide (x ≠ -1)) = none := by
          rw [List.findIdx?_eq_none_iff]
          intro x hx
          obtain ⟨j, hj, rfl⟩ := List.getElem_of_mem hx
          have := H.out j hj
          rw [List.getElem?_eq_getElem hj] at this
          rw [Option.some.inj this]
          simp
        show findHeld ls = _
        unfold findHeld
        rw [e]
      clear H HG
      go_wp2_with fail
      go_ret
      exact ⟨congrArg (fun z => Ending.returned (Value.int .i64 z)) hf.out.symm, rfl⟩

set_option maxHeartbeats 3200000 in
set_option maxRecDepth 100000 in
theorem entry_any {w : World} {M : Nat} {L : Lay} (h : Pic w M L) (hb1 : -1000000 ≤ L.base) (hb2 : L.base ≤ 1000000) (k j : Nat) {b : Blk} (hb : L.bs[k]? = some b) {x : Int} (hx : b.ls[j]? = some x) (hj : j < 4096) :
    Calls Yba.prog 16 #[.pointer (some ⟨L.gb, 0, none⟩), .int .i64 (k : Nat), .int .i64 (j : Nat)] w fun e w' => e = .returned (.agg #[.int .i64 (L.base + (k : Int) * 4096 + (j : Int)), .int .i64 x]) ∧ Below w.heap.size w w' := by
  obtain ⟨f0, f1, f2, f3, f4, f5, ff⟩ := h.fields
  have hgl := h.lt
  have hk : k < L.bs.length := (List.getElem?_eq_some_iff.1 hb).1
  have hne : L.bs ≠ [] := fun e => by rw [e] at hk; simp at hk
  rw [Pic.hdr_some hne] at f0
  have hroom := h.room
  have hfew := h.few
  obtain ⟨g1, g2, g3, g4⟩ := h.blk hb
  have hm := List.mem_of_getElem? hb
  obtain ⟨l1, l2, l3⟩ := h.line hm hx
  have hjl : j < b.ls.length := (List.getElem?_eq_some_iff.1 hx).1
  have hjl' : (j : Int) < (b.ls.length : Int) := by omega
  have hcap := (h.lin b hm).2.1
  have hk' : (k : Int) < (L.bs.length : Int) := by omega
  clear h hne hb hm hx
  generalize L.bs.length = nb at *
  generalize b.ls.length = nl at *
  go_enter Yba.func16, Yba.ntmps16
  go_upto_region 1 with fail
  go_region
  go_wp2_with fail
  exact bodyPost_ret (v := .agg #[.int .i64 (L.base + (k : Int) * 4096 + (j : Int)), .int .i64 x]) (by simp [results, Yba.results16, go_sem]) rfl ⟨rfl, ((Below.refl _ _).alloc (Nat.le_refl _) _).drew⟩

theorem alloc1 (w : World) (o : Obj) : (w.alloc o).heap.size = w.heap.size + 1 ∧ Below w.heap.size w (w.alloc o) ∧ (w.alloc o).heap[w.heap.size]? = some o :=
  ⟨by simp, (Below.refl _ _).alloc (Nat.le_refl _) _, Array.getElem?_push_size⟩
theorem two_cells {w : World} {b : Nat} {x y u v : Value} (h0 : w.cell? ⟨b, 0, none⟩ = some u) (h1 : w.cell? ⟨b, 1, none⟩ = some v) :
    ((w.setCell ⟨b, 0, none⟩ x).setCell ⟨b, 1, none⟩ y).cell? ⟨b, 0, none⟩ = some x ∧ ((w.setCell ⟨b, 0, none⟩ x).setCell ⟨b, 1, none⟩ y).cell? ⟨b, 1, none⟩ = some y := by
  have q1 : (w.setCell ⟨b, 0, none⟩ x).cell? ⟨b, 1, none⟩ = some v := (World.cell?_setCell_other w ⟨b, 0, none⟩ x (b := ⟨b, 1, none⟩) (by simp)).trans h1
  exact ⟨(World.cell?_setCell_other _ ⟨b, 1, none⟩ y (b := ⟨b, 0, none⟩) (by simp)).trans (World.cell?_setCell_same w ⟨b, 0, none⟩ x h0), World.cell?_setCell_same _ ⟨b, 1, none⟩ y q1⟩
/-- the line kept at index i -/
def valAt (L : Lay) (i : Nat) : Option Int := (L.bs[i / 4096]?).bind (fun b => b.ls[i % 4096]?)

set_option maxHeartbeats 6400000 in
set_option maxRecDepth 100000 in
theorem above_any {w : World} {M : Nat} {L : Lay} (h : Pic w M L) (hs : Shaped L) (n : Int) (i0 : Nat) (hn : n + 1 = L.base + (i0 : Nat)) (hf : L.first ≤ n) (hlt : n < L.endN) (hex : ∃ i x, i0 ≤ i ∧ valAt L i = some x ∧ x ≠ -1) :
    Calls Yba.prog 8 #[.pointer (some ⟨L.gb, 0, none⟩), .int .i64 n] w fun e w' => ∃ i x, i0 ≤ i ∧ valAt L i = some x ∧ x ≠ -1 ∧ (∀ i' x', i0 ≤ i' → i' < i → valAt L i' = some x' → x' = -1) ∧ e = .returned (.tuple #[.agg #[.int .i64 (L.base + (i : Nat)), .int .i64 x], .bool true]) ∧ Below w.heap.size w w' := by
  obtain ⟨f0, f1, f2, f3, f4, f5, ff⟩ := h.fields
  have hgl := h.lt
  have HE := hide (fun (W : World) (hW : Pic W M L) => end_any hW hs.b1 hs.b2 hs.le)
  have HH := hide h
  have HS := hide hs
  have HX := hide hex
  have hb1 := hs.b1
  have hb2 := hs.b2
  have hi6 : i0 < 10000000 := by
    obtain ⟨i, x, q1, q2, q3⟩ := hex
    unfold valAt at q2
    cases hb : L.bs[i / 4096]? with
    | none => rw [hb] at q2; simp at q2
    | some b =>
      have := (List.getElem?_eq_some_iff.1 hb).1
      have := h.few
      omega
  clear h hs hex
  generalize L.endN = E at *
  obtain ⟨z1, z2, z3⟩ := alloc1 w (Obj.cells #[.int .i64 0, .int .i64 0] 43)
  have hwn : IntKind.i64.wrap (n + 1) = n + 1 := by rw [IntKind.wrap_i64]; omega
  have hmx : max (n + 1) L.first = n + 1 := by omega
  have hsb : n + 1 - L.base = (i0 : Int) := by omega
  have hwi : IntKind.i64.wrap (i0 : Int) = (i0 : Int) := by rw [IntKind.wrap_i64]; omega
  have HN := hide hn
  clear hn
  go_enter Yba.func8, Yba.ntmps8
  go_wp2_with fail
  generalize w.alloc (Obj.cells #[.int .i64 0, .int .i64 0] 43) = W0 at *
  have P0 := HH.out.up z2
  refine (HE.out W0 P0).mono ?_
  rintro e w1 ⟨rfl, k1, rfl⟩
  have P1 := hide (P0.drewN k1)
  have B1 : Hid (Below w.heap.size w (W0.drewN k1)) := below_drewN z2 k1
  have z3' : (W0.drewN k1).heap[w.heap.size]? = _ := z3
  have z1' : Hid ((W0.drewN k1).heap.size = w.heap.size + 1) := z1
  clear P0 z1 z2 z3 f0 f1 f2 f3 f4 f5 ff
  generalize W0.drewN k1 = W1 at *
  obtain ⟨f0, f1, f2, f3, f4, f5, ff⟩ := P1.out.fields
  go_upto_region 3 with fail
  go_quiet (fail)
  go_upto_region 5 with fail
  have P2 := hide (P1.out.drewN nq)
  have B2 : Hid (Below w.heap.size w (W1.drewN nq)) := below_drewN B1.out nq
  have z3 : (W1.drewN nq).heap[w.heap.size]? = _ := z3'
  have z1 : Hid ((W1.drewN nq).heap.size = w.heap.size + 1) := z1'
  clear P1 B1 z3' z1' f0 f1 f2 f3 f4 f5 ff hmx hwn hsb hwi
  generalize W1.drewN nq = W2 at *
  have e0 : Hid (i0 = i0 / 4096 * 4096 + i0 % 4096) := by show _ = _; omega
  go_loopg [7, 8] (L.bs.length - i0 / 4096) (fun gq s7 s8 wr => ∃ k j : Nat, s7 = .int .i64 (k : Nat) ∧ s8 = .int .i64 (j : Nat) ∧ gq = L.bs.length - k ∧ j < 4096 ∧ (∃ m, wr = W2.drewN m) ∧ Hid (i0 ≤ k * 4096 + j ∧ ∀ i' x', i0 ≤ i' → i' < k * 4096 + j → valAt L i' = some x' → x' = -1))
  case atStart => exact ⟨i0 / 4096, i0 % 4096, rfl, rfl, rfl, by omega, ⟨0, rfl⟩, by omega, fun i' x' h1 h2 => by omega⟩
  case round =>
    obtain ⟨k, j, rfl, rfl, hq, hj, ⟨m, rfl⟩, H⟩ := hrel
    obtain ⟨i, x, q1, q2, q3⟩ := HX.out
    have hge : k * 4096 + j ≤ i := by
      rcases Nat.lt_or_ge i (k * 4096 + j) with h | h
      · exact absurd (H.out.2 i x q1 h q2) q3
      · exact h
    have P3 := hide (P2.out.drewN m)
    obtain ⟨f0, f1, f2, f3, f4, f5, ff⟩ := P3.out.fields
    obtain ⟨bi, hbi⟩ : ∃ b, L.bs[i / 4096]? = some b := by
      unfold valAt at q2
      cases hb : L.bs[i / 4096]? with
      | none => rw [hb] at q2; simp at q2
      | some b => exact ⟨b, rfl⟩
    have hil := (List.getElem?_eq_some_iff.1 hbi).1
    have hk : k < L.bs.length := by omega
    have hne : L.bs ≠ [] := fun e => by rw [e] at hk; simp at hk
    rw [Pic.hdr_some hne] at f0
    obtain ⟨b, hb⟩ : ∃ b, L.bs[k]? = some b := ⟨_, List.getElem?_eq_getElem hk⟩
    obtain ⟨g1, g2, g3, g4⟩ := P3.out.blk hb
    have hm := List.mem_of_getElem? hb
    have hbl := HS.out.le b hm
    have hfew := HH.out.few
    have hroom := HH.out.room
    have hk' : (k : Int) < (L.bs.length : Int) := by omega
    have hjb : j ≤ b.ls.length := by
      by_cases hlast : k + 1 < L.bs.length
      · rw [HS.out.full k b hb hlast]; omega
      · have e : i / 4096 = k := by omega
        rw [e, hb] at hbi
        unfold valAt at q2
        rw [e, hb] at q2
        have := (List.getElem?_eq_some_iff.1 (show b.ls[i % 4096]? = some x from q2)).1
        omega
    have hval : ∀ j', j' < 4096 → valAt L (k * 4096 + j') = b.ls[j']? := fun j' h => by
      unfold valAt
      rw [show (k * 4096 + j') / 4096 = k by omega, show (k * 4096 + j') % 4096 = j' by omega, hb]
      rfl
    by_cases h0 : heldOf b.ls = 0
    · have hvac : ∀ j' x', b.ls[j']? = some x' → x' = -1 := fun j' x' hx' => by
        unfold heldOf at h0
        rw [List.countP_eq_zero] at h0
        have := h0 x' (List.mem_of_getElem? hx')
        simpa using this
      rw [h0] at g2
      have H2 : Hid (i0 ≤ (k + 1) * 4096 + 0 ∧ ∀ i' x', i0 ≤ i' → i' < (k + 1) * 4096 + 0 → valAt L i' = some x' → x' = -1) := by
        refine ⟨by have := H.out.1; omega, fun i' x' h1 h2 h3 => ?_⟩
        rcases Nat.lt_or_ge i' (k * 4096 + j) with h | h
        · exact H.out.2 i' x' h1 h h3
        · obtain ⟨j', rfl⟩ : ∃ j', i' = k * 4096 + j' := ⟨i' - k * 4096, by omega⟩
          rw [hval j' (by omega)] at h3
          exact hvac j' x' h3
      clear H hvac hval q1 q2 q3 hbi hge h0 hb hm hne HX
      generalize L.bs.length = nb at *
      go_wp2_with fail
      go_roundg (nb - (k + 1))
      case measure => omega
      case rel => exact ⟨k + 1, 0, rfl, rfl, rfl, by omega, ⟨_, rfl⟩, H2⟩
    · have hc := (HH.out.lin b hm).2.1
      have hmax := (HH.out.lin b hm).1
      have IX : Hid (∀ A, A = (if b.cap = j then some (⟨b.lb, 0, none⟩ : Addr) else some ⟨b.lb, j, none⟩) → Calls Yba.prog 15 #[.slice A (b.ls.length - j) (b.cap - j), .func (.func 13) #[] #[]] (W2.drewN m) fun e w' => e = .returned (.int .i64 (findHeld (b.ls.drop j))) ∧ w' = W2.drewN m) := fun A hA => by
        have := index_any (w := W2.drewN m) A (b.cap - j) (b.ls.drop j) (by simp; omega) (by simp; omega) (fun hne => by
          have hjl : j < b.ls.length := by
            rcases Nat.lt_or_ge j b.ls.length with h | h
            · exact h
            · exact absurd (List.drop_eq_nil_of_le h) hne
          rw [if_neg (by omega)] at hA
          exact ⟨b.lb, j, hA, fun j' x' hx' => (P3.out.line hm (by rw [List.getElem?_drop] at hx'; exact hx')).1⟩)
        rw [List.length_drop] at this
        exact this
      have h0' : ((heldOf b.ls : Int) == 0) = false := by simpa using h0
      have h0'' : ¬ (heldOf b.ls : Int) = 0 := by omega
      cases hfx : (b.ls.drop j).findIdx? (fun x => decide (x ≠ -1)) with
      | none =>
        have hfd : findHeld (b.ls.drop j) = -1 := by unfold findHeld; rw [hfx]
        rw [hfd] at IX
        have H2 : Hid (i0 ≤ (k + 1) * 4096 + 0 ∧ ∀ i' x', i0 ≤ i' → i' < (k + 1) * 4096 + 0 → valAt L i' = some x' → x' = -1) := by
          refine ⟨by have := H.out.1; omega, fun i' x' h1 h2 h3 => ?_⟩
          rcases Nat.lt_or_ge i' (k * 4096 + j) with h | h
          · exact H.out.2 i' x' h1 h h3
          · obtain ⟨j', rfl⟩ : ∃ j', i' = k * 4096 + j' := ⟨i' - k * 4096, by omega⟩
            rw [hval j' (by omega)] at h3
            rw [List.findIdx?_eq_none_iff] at hfx
            have := hfx x' (List.mem_of_getElem? (i := j' - j) (by rw [List.getElem?_drop, show j + (j' - j) = j' by omega]; exact h3))
            simpa using this
        clear H hval q1 q2 q3 hbi hge h0 hb hm hne HX hfx hfd
        generalize L.bs.length = nb at *
        generalize b.ls.length = nl at *
        generalize heldOf b.ls = hh at *
        go_wp2_with (go_at_call 15; refine (IX.out _ (by first | rfl | (rw [if_pos (by assumption)]) | (rw [if_neg (by assumption)]))).mono ?_; rintro e w9 ⟨rfl, rfl⟩)
        all_goals
          go_roundg (nb - (k + 1))
          case measure => omega
          case rel => exact ⟨k + 1, 0, rfl, rfl, rfl, by omega, ⟨_, rfl⟩, H2⟩
      | some t =>
        have hfd : findHeld (b.ls.drop j) = (t : Int) := by unfold findHeld; rw [hfx]
        rw [hfd] at IX
        rw [List.findIdx?_eq_some_iff_getElem] at hfx
        obtain ⟨ht, hy, hbefore⟩ := hfx
        rw [List.length_drop] at ht
        rw [List.getElem_drop] at hy
        obtain ⟨y, hy1⟩ : ∃ y, b.ls[j + t]? = some y := ⟨_, List.getElem?_eq_getElem (by omega)⟩
        have hy2 : y ≠ -1 := by
          rw [List.getElem?_eq_getElem (by omega)] at hy1
          rw [Option.some.inj hy1] at hy
          simpa using hy
        have hfin : Hid (i0 ≤ k * 4096 + (j + t) ∧ valAt L (k * 4096 + (j + t)) = some y ∧ y ≠ -1 ∧ ∀ i' x', i0 ≤ i' → i' < k * 4096 + (j + t) → valAt L i' = some x' → x' = -1) := by
          refine ⟨by have := H.out.1; omega, by rw [hval _ (by omega)]; exact hy1, hy2, fun i' x' h1 h2 h3 => ?_⟩
          rcases Nat.lt_or_ge i' (k * 4096 + j) with h | h
          · exact H.out.2 i' x' h1 h h3
          · obtain ⟨j', rfl⟩ : ∃ j', i' = k * 4096 + j' := ⟨i' - k * 4096, by omega⟩
            rw [hval j' (by omega)] at h3
            have := hbefore (j' - j) (by omega)
            rw [List.getElem_drop] at this
            have e : b.ls[j + (j' - j)]'(by omega) = x' := by
              have h4 := h3
              rw [List.getElem?_eq_getElem (by omega)] at h4
              rw [← Option.some.inj h4]
              congr 1
              omega
            rw [e] at this
            simpa using this
        have EN := hide (entry_any P3.out hb1 hb2 k (j + t) hb hy1 (by omega))
        have e6 : ((j + t : Nat) : Int) = (j : Int) + (t : Int) := by omega
        rw [e6] at EN
        have t0 : (0 : Int) ≤ (t : Int) := by omega
        have hjt : j + t < 4096 := by omega
        have y0 : (W2.drewN m).cell? ⟨w.heap.size, 0, none⟩ = some (.int .i64 0) := by simp [World.cell?, z3]
        have zz := z1.out
        clear H hval q1 q2 q3 hbi hge h0 hb hm hne HX hfd hbefore hy hy1 hy2 ht e6
        generalize L.bs.length = nb at *
        generalize b.ls.length = nl at *
        generalize heldOf b.ls = hh at *
        have B3 : Hid (Below w.heap.size w (W2.drewN m)) := below_drewN B2.out m
        have z4 : Hid ((W2.drewN m).heap[w.heap.size]? = some (.cells #[.int .i64 0, .int .i64 0] 43 (0, 0))) := z3
        have zs : (W2.drewN m).heap.size = w.heap.size + 1 := zz
        have HZ := hide zs
        clear zs zz z3 z1 y0
        generalize W2.drewN m = W3 at *
        go_wp2_with (go_at_call 15; refine (IX.out _ (by first | rfl | (rw [if_pos (by assumption)]) | (rw [if_neg (by assumption)]))).mono ?_; rintro e w9 ⟨rfl, rfl⟩)
        all_goals
          refine EN.out.mono ?_
          rintro e w10 ⟨rfl, B9⟩
          have hz9 := HZ.out
          have z9 := (B9.block w.heap.size (by omega)).trans z4.out
          have y0 : w10.cell? ⟨w.heap.size, 0, none⟩ = some (.int .i64 0) := by simp [World.cell?, z9]
          have y1 : w10.cell? ⟨w.heap.size, 1, none⟩ = some (.int .i64 0) := by simp [World.cell?, z9]
          have y0f : w10.frozen? ⟨w.heap.size, 0, none⟩ = false := by simp [World.frozen?, z9]
          have y1f : w10.frozen? ⟨w.heap.size, 1, none⟩ = false := by simp [World.frozen?, z9]
          have BB := B3.out.trans (B9.mono B3.out.size)
          clear hz9 z9 B9
          go_wp2_with fail
          have ee : L.base + (k : Int) * 4096 + ((j : Int) + (t : Int)) = L.base + ((k * 4096 + (j + t) : Nat) : Int) := by omega
          rw [ee]
          obtain ⟨h1, h2, h3, h4⟩ := hfin.out
          obtain ⟨Z, hZ⟩ : ∃ Z, Z = L.base + ((k * 4096 + (j + t) : Nat) : Int) := ⟨_, rfl⟩
          rw [← hZ]
          obtain ⟨r0, r1⟩ := two_cells (x := .int .i64 Z) (y := .int .i64 y) y0 y1
          have BC : Below w.heap.size w ((w10.setCell ⟨w.heap.size, 0, none⟩ (.int .i64 Z)).setCell ⟨w.heap.size, 1, none⟩ (.int .i64 y)) := (BB.setCell (by simp) _).setCell (by simp) _
          generalize (w10.setCell ⟨w.heap.size, 0, none⟩ (.int .i64 Z)).setCell ⟨w.heap.size, 1, none⟩ (.int .i64 y) = W9 at *
          exact bodyPost_ret (v := .tuple #[.agg #[.int .i64 Z, .int .i64 y], .bool true]) (by simp [results, Yba.results8, go_sem, r0, r1]) rfl ⟨k * 4096 + (j + t), y, h1, h2, h3, h4, by rw [hZ], BC⟩
end Go.Proofs.Ybulkdcko
