/-
  THE WALK of selectable.
-/
import Derived.Test.YbulkdcggFmtTree
import Derived.Lib.AppendZeros
import Derived.OwnWalk
import Derived.WalkSmall
namespace Go.Proofs.YbulkdcggFmt
open Go.RowKit

theorem info36 : (Ybaf.prog.info? 36).map (fun i => (i.zero, i.size, i.bytes)) = some (some (.pointer none), 1, 8) := by kernel_rfl
def ptr (b : Nat) : Value := .pointer (some ⟨b, 0, none⟩)
/-- a slice of pointers that the walk has built -/
structure OC (w W : World) (v : Value) (ps : List Nat) : Prop where
  own : W.ownsRow w.heap.size 36 1 v ps.length (ps.map ptr)
  bel : Below w.heap.size w W
  small : ps.length ≤ 100
theorem OC.append {w W : World} {v : Value} {ps qs : List Nat} (h : OC w W v ps) {a : Addr} {c : Nat} (hc : ∀ j b, qs[j]? = some b → W.cell? (a.add j) = some (ptr b)) (hs : ps.length + qs.length ≤ 100) (ty : TypeId) :
    ∃ v' W', (Builtin.append_ #[42, 42] ty #[v, .slice (some a) qs.length c]).run Ybaf.prog W = .ok v' W' ∧ OC w W' v' (ps ++ qs) := by
  obtain ⟨i0, hi0, hz0, hz1, hz2⟩ := info_parts info36
  obtain ⟨v', W', hr, h2, h3, h4⟩ := run_append_own (P := Ybaf.prog) W w.heap.size 42 ty 36 i0 (.pointer none) 1 8 Ybaf.underlying42 hi0 hz0 hz1 hz2 rfl (by decide) v ps.length _ h.own a qs.length c (qs.map ptr) (by simp)
    (fun j u hu => by
      rw [List.getElem?_map] at hu
      cases hq : qs[j]? with
      | none => rw [hq] at hu; simp at hu
      | some b =>
        rw [hq] at hu
        simp only [Option.map_some, Option.some.injEq] at hu
        subst hu
        exact hc j b hq)
    (fun u hu => by
      obtain ⟨b, _, rfl⟩ := List.mem_map.1 hu
      rfl) (by unfold maxLen; omega) (by omega) h.bel.size
  refine ⟨v', W', hr, ⟨?_, h.bel.grown h3 h.bel.size (fun q hq => (h.own.lt q hq).1), by simpa using hs⟩⟩
  rw [List.length_append, List.map_append]
  exact h2
theorem OC.alloc {w W : World} {v : Value} {ps : List Nat} (h : OC w W v ps) (o : Obj) : OC w (W.alloc o) v ps := ⟨h.own.alloc o, h.bel.alloc h.bel.size o, h.small⟩
theorem OC.one {w W : World} {v : Value} {ps : List Nat} (h : OC w W v ps) (b : Nat) (hs : ps.length + 1 ≤ 100) (ty : TypeId) :
    ∃ v' W', (Builtin.append_ #[42, 42] ty #[v, .slice (some ⟨W.heap.size, 0, none⟩) 1 1]).run Ybaf.prog (W.alloc (.cells #[.pointer (some ⟨b, 0, none⟩)] 36)) = .ok v' W' ∧ OC w W' v' (ps ++ [b]) := by
  refine (h.alloc (.cells #[.pointer (some ⟨b, 0, none⟩)] 36)).append (qs := [b]) (fun j x hx => ?_) (by simpa using hs) ty
  obtain ⟨hj, hx⟩ := List.getElem?_eq_some_iff.1 hx
  have : j = 0 := by simpa using hj
  subst this
  simp only [List.getElem_cons_zero] at hx
  subst hx
  rw [Addr.add_lit]
  exact World.cell?_alloc_at _ _ _ _ rfl
theorem OC.fresh {w W : World} {b0 b1 : Nat} (hz : W.heap[w.heap.size]? = some (.cells #[.pointer (some ⟨b0, 0, none⟩), .pointer (some ⟨b1, 0, none⟩)] 36 (0, 0))) (hb : Below w.heap.size w W) : OC w W (.slice (some ⟨w.heap.size, 0, none⟩) 2 2) [b0, b1] :=
  ⟨⟨rfl, .inr ⟨w.heap.size, 2, _, rfl, Nat.le_refl _, hz, Nat.le_refl _, by decide, rfl, rfl⟩⟩, hb, by simp⟩
theorem OC.at {w W : World} {v : Value} {ps : List Nat} (h : OC w W v ps) (hne : 0 < ps.length) : ∃ g c, v = .slice (some ⟨g, 0, none⟩) ps.length c ∧ ps.length ≤ c ∧ ∀ j b, ps[j]? = some b → W.cell? ⟨g, j, none⟩ = some (.pointer (some ⟨b, 0, none⟩)) := by
  rcases h.own with ⟨h1, ⟨rfl, h2⟩ | ⟨g, cap, cur, rfl, hg, hb, hn, hm, hcs, ht⟩⟩
  · omega
  · refine ⟨g, cap, rfl, hn, fun j b hj => ?_⟩
    have hj' := (List.getElem?_eq_some_iff.1 hj).1
    rw [h.own.cellAt j (by omega), List.getElem?_map, hj]
    rfl

theorem idOf_lt (k : Nat) : idOf k < 65536 := by
  unfold idOf
  split <;> decide
theorem Tree.id {s : Shape} {N : Nat} {w : World} (t : Tree s N w) {k : Nat} (h : k < 6) : s.b k < N ∧ w.cell? ⟨s.b k, 0, none⟩ = some (.int .u16 (idOf k : Nat)) := by
  have hc : k = 0 ∨ k = 1 ∨ k = 2 ∨ k = 3 ∨ k = 4 ∨ k = 5 := by omega
  rcases hc with rfl | rfl | rfl | rfl | rfl | rfl
  · exact t.get 0 rfl
  · exact t.get 7 rfl
  · exact t.get 14 rfl
  · exact t.get 21 rfl
  · exact t.get 28 rfl
  · exact t.get 35 rfl
/-- the candidates of directory d -/
def cands : Nat → List Nat
  | 0 => [0, 0, 1, 4]
  | 1 => [0, 1, 2, 3, 0, 1, 4]
  | _ => [0, 4, 5, 0, 1, 4]
theorem cands_lt {d k : Nat} (h : k ∈ cands d) : k < 6 := by
  unfold cands at h
  split at h <;> simp at h <;> omega
theorem find_cands {d : Nat} (hd : d = 0 ∨ d = 1 ∨ d = 4) (id : Nat) : (cands d).find? (fun k => idOf k == id) = pick d id := by
  by_cases h16128 : id = 16128
  · subst h16128; rcases hd with rfl | rfl | rfl <;> rfl
  by_cases h32528 : id = 32528
  · subst h32528; rcases hd with rfl | rfl | rfl <;> rfl
  by_cases h28476 : id = 28476
  · subst h28476; rcases hd with rfl | rfl | rfl <;> rfl
  by_cases h28483 : id = 28483
  · subst h28483; rcases hd with rfl | rfl | rfl <;> rfl
  by_cases h32544 : id = 32544
  · subst h32544; rcases hd with rfl | rfl | rfl <;> rfl
  by_cases h28472 : id = 28472
  · subst h28472; rcases hd with rfl | rfl | rfl <;> rfl
  have e : ∀ k, (idOf k == id) = false := by
    intro k
    unfold idOf
    split <;> simp <;> omega
  unfold pick
  rw [List.find?_eq_none.2 (fun k _ => by simp [e k]), List.find?_eq_none.2 (fun k _ => by simp [e k])]
/-- the pointer that a search answers -/
def ptrOf (s : Shape) : Option Nat → Value
  | some k => .pointer (some ⟨s.b k, 0, none⟩)
  | none => .pointer none

set_option maxHeartbeats 12800000 in
set_option maxRecDepth 100000 in
theorem sel0 {s : Shape} {N : Nat} {w : World} (t : Tree s N w) (hN : N ≤ w.heap.size) (id b : Nat) (hid : id < 65536)
    (hx : (w.cell? ⟨b, 1, none⟩ = some (.int .u8 4) ∧ w.cell? ⟨b, 2, none⟩ = some (.pointer (some ⟨s.b0, 0, none⟩))) ∨ b = s.b0) :
    Calls Ybaf.prog 14 #[.pointer (some ⟨s.b0, 0, none⟩), .pointer (some ⟨b, 0, none⟩), .int .u16 (id : Nat)] w fun e w' => e = .returned (ptrOf s (pick 0 id)) ∧ Below w.heap.size w w' := by
  have HT := hide t
  have HF := hide (find_cands (d := 0) (by decide) id)
  have f1 := t.get 1 (g := s.b0) (o := 1) (v := .int .u8 1) rfl
  have f2 := (t.get 2 (g := s.b0) (o := 2) (v := .pointer none) rfl).2
  have f3 := (t.get 3 (g := s.b0) (o := 3) (v := .slice (some ⟨s.c0, 0, none⟩) 2 s.p0) rfl).2
  have fl : s.b0 < w.heap.size := Nat.lt_of_lt_of_le f1.1 hN
  have f1c := f1.2
  have hk := t.k0
  have g0 := (t.get 42 (g := s.c0) (o := 0) (v := .pointer (some ⟨s.b1, 0, none⟩)) rfl).2
  have g1 := (t.get 43 (g := s.c0) (o := 1) (v := .pointer (some ⟨s.b4, 0, none⟩)) rfl).2
  have gl : s.c0 < w.heap.size := Nat.lt_of_lt_of_le (t.get 42 (g := s.c0) (o := 0) (v := .pointer (some ⟨s.b1, 0, none⟩)) rfl).1 hN
  clear t f1
  go_enter Ybaf.func14, Ybaf.ntmps14
  rcases hx with ⟨x1, x2⟩ | rfl
  all_goals
    go_upto_region 5 with fail
    try clear x1 x2
    obtain ⟨hsz, hbel, hb0⟩ := alloc1 w (Obj.cells #[.pointer (some ⟨s.b0, 0, none⟩), .pointer (some ⟨s.b0, 0, none⟩)] 36)
    generalize w.alloc (Obj.cells #[.pointer (some ⟨s.b0, 0, none⟩), .pointer (some ⟨s.b0, 0, none⟩)] 36) = W at *
    have OA := OC.fresh hb0 hbel
    clear hb0 hsz
    have y3 : W.cell? ⟨s.b0, 3, none⟩ = some (.slice (some ⟨s.c0, 0, none⟩) 2 s.p0) := by rw [hbel.cell (by simpa using fl)]; exact f3
    obtain ⟨v1, W1, r1, OB⟩ := OA.append (qs := [s.b1, s.b4]) (a := ⟨s.c0, 0, none⟩) (c := s.p0) (fun j b hj => by
      have hj' := (List.getElem?_eq_some_iff.1 hj).1
      simp only [List.length_cons, List.length_nil] at hj'
      have hjj : j = 0 ∨ j = 1 := by omega
      rw [Addr.add_lit, hbel.cell (by simpa using gl)]
      rcases hjj with rfl | rfl <;> (simp at hj; subst hj; assumption)) (by simp) 42
    simp only [List.length_cons, List.length_nil, Nat.reduceAdd] at r1
    have HB := hide OB
    have T1 := OB.bel
    clear OA OB hbel
    have y2 : W1.cell? ⟨s.b0, 2, none⟩ = some (.pointer none) := by rw [T1.cell (by simpa using fl)]; exact f2

    obtain ⟨gg, cc, hvv, hcc, HC⟩ := OC.at HB.out (by simp)
    subst hvv
    have HC' : Hid (∀ j b, ([s.b0, s.b0, s.b1, s.b4] : List Nat)[j]? = some b → W1.cell? ⟨gg, j, none⟩ = some (.pointer (some ⟨b, 0, none⟩))) := HC
    simp only [List.length_append, List.length_cons, List.length_nil, Nat.reduceAdd] at hcc
    clear HC
    clear HB
    go_wp2_with (at_builtin; refine Lib.wpList_append_run _ rfl _ _ 42 42 rfl _ _ rfl rfl _ _ r1 ?_)
    clear r1 y2 y3
    go_loopg [68] 4 (fun g sl wq => ∃ i : Nat, sl = .int .i64 (i : Nat) ∧ i ≤ 4 ∧ g = 4 - i ∧ wq = W1 ∧ Hid (((cands 0).drop i).find? (fun k => idOf k == id) = pick 0 id))
    case atStart => exact ⟨0, rfl, by omega, rfl, rfl, HF.out⟩
    case round =>
      obtain ⟨i, rfl, hi, hg, rfl, H⟩ := hrel
      by_cases hlt : i < 4
      · obtain ⟨k, hkk⟩ : ∃ k, (cands 0)[i]? = some k := ⟨(cands 0)[i]'hlt, List.getElem?_eq_getElem hlt⟩
        have hdr : Hid ((cands 0).drop i = k :: (cands 0).drop (i + 1)) := by
          have e := List.drop_eq_getElem_cons (l := cands 0) hlt
          rw [List.getElem?_eq_getElem hlt] at hkk
          rw [Option.some.inj hkk] at e
          exact e
        have hk6 : k < 6 := cands_lt (d := 0) (List.mem_of_getElem? hkk)
        have c1 := HC'.out i (s.b k) (by
          have e : ([s.b0, s.b0, s.b1, s.b4] : List Nat) = (cands 0).map s.b := rfl
          rw [e, List.getElem?_map, hkk]; rfl)
        have c2 := (T1.cell (p := ⟨s.b k, 0, none⟩) (by have := (HT.out.id hk6).1; simp only; omega)).trans (HT.out.id hk6).2
        have il := idOf_lt k
        have i1 : (i : Int) < 4 := by omega
        clear hkk
        by_cases hq : id = idOf k
        · have H2 : Hid (pick 0 id = some k) := by
            have := H.out
            rw [hdr.out, List.find?_cons, show (idOf k == id) = true by simpa using hq.symm] at this
            exact this.symm
          clear H hdr HF
          subst hq
          go_wp2_with fail
          go_ret
          exact ⟨congrArg (fun z => Ending.returned (ptrOf s z)) H2.out.symm, T1⟩
        · have H2 : Hid (((cands 0).drop (i + 1)).find? (fun k => idOf k == id) = pick 0 id) := by
            have := H.out
            rw [hdr.out, List.find?_cons, show (idOf k == id) = false by simpa using fun e => hq e.symm] at this
            exact this
          clear H hdr HF
          have hq1 : ((idOf k : Int) == (id : Int)) = false := by simpa using fun e => hq (by omega)
          have hq2 : ¬ (idOf k : Int) = (id : Int) := fun e => hq (by omega)
          generalize idOf k = ik at *
          go_wp2_with fail
          go_roundg (4 - (i + 1))
          case measure => omega
          case rel => exact ⟨i + 1, rfl, by omega, rfl, rfl, H2⟩
      · have e : i = 4 := by omega
        subst e
        have H2 : Hid (pick 0 id = none) := H.out.symm
        clear H HF
        go_wp2_with fail
        go_ret
        exact ⟨congrArg (fun z => Ending.returned (ptrOf s z)) H2.out.symm, T1⟩
set_option maxHeartbeats 12800000 in
set_option maxRecDepth 100000 in
theorem sel1 {s : Shape} {N : Nat} {w : World} (t : Tree s N w) (hN : N ≤ w.heap.size) (id b : Nat) (hid : id < 65536)
    (hx : (w.cell? ⟨b, 1, none⟩ = some (.int .u8 4) ∧ w.cell? ⟨b, 2, none⟩ = some (.pointer (some ⟨s.b1, 0, none⟩))) ∨ b = s.b1) :
    Calls Ybaf.prog 14 #[.pointer (some ⟨s.b0, 0, none⟩), .pointer (some ⟨b, 0, none⟩), .int .u16 (id : Nat)] w fun e w' => e = .returned (ptrOf s (pick 1 id)) ∧ Below w.heap.size w w' := by
  have HT := hide t
  have HF := hide (find_cands (d := 1) (by decide) id)
  have f1 := t.get 8 (g := s.b1) (o := 1) (v := .int .u8 2) rfl
  have f2 := (t.get 9 (g := s.b1) (o := 2) (v := .pointer (some ⟨s.b0, 0, none⟩)) rfl).2
  have f3 := (t.get 10 (g := s.b1) (o := 3) (v := .slice (some ⟨s.c1, 0, none⟩) 2 s.p1) rfl).2
  have fl : s.b1 < w.heap.size := Nat.lt_of_lt_of_le f1.1 hN
  have f1c := f1.2
  have hk := t.k1
  have g0 := (t.get 44 (g := s.c1) (o := 0) (v := .pointer (some ⟨s.b2, 0, none⟩)) rfl).2
  have g1 := (t.get 45 (g := s.c1) (o := 1) (v := .pointer (some ⟨s.b3, 0, none⟩)) rfl).2
  have gl : s.c1 < w.heap.size := Nat.lt_of_lt_of_le (t.get 44 (g := s.c1) (o := 0) (v := .pointer (some ⟨s.b2, 0, none⟩)) rfl).1 hN
  have z3 := t.get 3 (g := s.b0) (o := 3) (v := .slice (some ⟨s.c0, 0, none⟩) 2 s.p0) rfl
  have zl : s.b0 < w.heap.size := Nat.lt_of_lt_of_le z3.1 hN
  have z3c := z3.2
  have hk0 := t.k0
  have k0 := t.get 42 (g := s.c0) (o := 0) (v := .pointer (some ⟨s.b1, 0, none⟩)) rfl
  have k1 := (t.get 43 (g := s.c0) (o := 1) (v := .pointer (some ⟨s.b4, 0, none⟩)) rfl).2
  have kl : s.c0 < w.heap.size := Nat.lt_of_lt_of_le k0.1 hN
  have k0c := k0.2
  have m1 := t.get 8 (g := s.b1) (o := 1) (v := .int .u8 2) rfl
  have m4 := t.get 29 (g := s.b4) (o := 1) (v := .int .u8 2) rfl
  have ml1 : s.b1 < w.heap.size := Nat.lt_of_lt_of_le m1.1 hN
  have ml4 : s.b4 < w.heap.size := Nat.lt_of_lt_of_le m4.1 hN
  have m1c := m1.2
  have m4c := m4.2
  clear z3 k0 m1 m4
  clear t f1
  go_enter Ybaf.func14, Ybaf.ntmps14
  rcases hx with ⟨x1, x2⟩ | rfl
  all_goals
    go_upto_region 5 with fail
    try clear x1 x2
    obtain ⟨hsz, hbel, hb0⟩ := alloc1 w (Obj.cells #[.pointer (some ⟨s.b0, 0, none⟩), .pointer (some ⟨s.b1, 0, none⟩)] 36)
    generalize w.alloc (Obj.cells #[.pointer (some ⟨s.b0, 0, none⟩), .pointer (some ⟨s.b1, 0, none⟩)] 36) = W at *
    have OA := OC.fresh hb0 hbel
    clear hb0 hsz
    have y3 : W.cell? ⟨s.b1, 3, none⟩ = some (.slice (some ⟨s.c1, 0, none⟩) 2 s.p1) := by rw [hbel.cell (by simpa using fl)]; exact f3
    obtain ⟨v1, W1, r1, OB⟩ := OA.append (qs := [s.b2, s.b3]) (a := ⟨s.c1, 0, none⟩) (c := s.p1) (fun j b hj => by
      have hj' := (List.getElem?_eq_some_iff.1 hj).1
      simp only [List.length_cons, List.length_nil] at hj'
      have hjj : j = 0 ∨ j = 1 := by omega
      rw [Addr.add_lit, hbel.cell (by simpa using gl)]
      rcases hjj with rfl | rfl <;> (simp at hj; subst hj; assumption)) (by simp) 42
    simp only [List.length_cons, List.length_nil, Nat.reduceAdd] at r1
    have HB := hide OB
    have T1 := OB.bel
    clear OA OB hbel
    have y2 : W1.cell? ⟨s.b1, 2, none⟩ = some (.pointer (some ⟨s.b0, 0, none⟩)) := by rw [T1.cell (by simpa using fl)]; exact f2

    obtain ⟨v2, W2, r2, OD⟩ := HB.out.one s.b0 (by simp) 42
    have OD' : Hid (OC w W2 v2 [s.b0, s.b1, s.b2, s.b3, s.b0]) := OD
    have T2 := OD.bel
    clear OD HB
    have x2 : W2.cell? ⟨s.b1, 2, none⟩ = some (.pointer (some ⟨s.b0, 0, none⟩)) := by rw [T2.cell (by simpa using fl)]; exact f2
    have x3 : W2.cell? ⟨s.b0, 3, none⟩ = some (.slice (some ⟨s.c0, 0, none⟩) 2 s.p0) := by rw [T2.cell (by simpa using zl)]; exact z3c
    go_wp2_with (first | (at_builtin; refine Lib.wpList_append_run _ rfl _ _ 42 42 rfl _ _ rfl rfl _ _ r1 ?_) | (at_builtin; refine Lib.wpList_append_run _ rfl _ _ 42 42 rfl _ _ rfl rfl _ _ r2 ?_))
    clear r1 r2 x2 x3 y2 y3 T1 T2
    go_loopg [8, 52] 2 (fun g sv sl wr => ∃ i : Nat, sl = .int .i64 (i : Nat) ∧ i ≤ 2 ∧ g = 2 - i ∧ Hid (OC w wr sv ([s.b0, s.b1, s.b2, s.b3, s.b0] ++ [s.b1, s.b4].take i)))
    case atStart => exact ⟨0, rfl, by omega, rfl, OD'⟩
    case round =>
      clear OD'
      obtain ⟨i, rfl, hi, hg, HO⟩ := hrel
      have hc : i = 0 ∨ i = 1 ∨ i = 2 := by omega
      have T1 := HO.out.bel
      have a0 : wr.cell? ⟨s.c0, 0, none⟩ = some (.pointer (some ⟨s.b1, 0, none⟩)) := by rw [T1.cell (by simpa using kl)]; exact k0c
      have a1 : wr.cell? ⟨s.c0, 1, none⟩ = some (.pointer (some ⟨s.b4, 0, none⟩)) := by rw [T1.cell (by simpa using kl)]; exact k1
      have a2 : wr.cell? ⟨s.b1, 1, none⟩ = some (.int .u8 2) := by rw [T1.cell (by simpa using ml1)]; exact m1c
      have a3 : wr.cell? ⟨s.b4, 1, none⟩ = some (.int .u8 2) := by rw [T1.cell (by simpa using ml4)]; exact m4c
      rcases hc with rfl | rfl | rfl
      · obtain ⟨v3, W3, r3, OE⟩ := HO.out.one s.b1 (by simp) 42
        have OE' : Hid (OC w W3 v3 ([s.b0, s.b1, s.b2, s.b3, s.b0] ++ [s.b1, s.b4].take 1)) := OE
        clear OE HO
        go_wp2_with (at_builtin; refine Lib.wpList_append_run _ rfl _ _ 42 42 rfl _ _ rfl rfl _ _ r3 ?_)
        go_roundg (2 - 1)
        case measure => omega
        case rel => exact ⟨1, rfl, by omega, rfl, OE'⟩
      · obtain ⟨v3, W3, r3, OE⟩ := HO.out.one s.b4 (by simp) 42
        have OE' : Hid (OC w W3 v3 ([s.b0, s.b1, s.b2, s.b3, s.b0] ++ [s.b1, s.b4].take 2)) := OE
        clear OE HO
        go_wp2_with (at_builtin; refine Lib.wpList_append_run _ rfl _ _ 42 42 rfl _ _ rfl rfl _ _ r3 ?_)
        go_roundg (2 - 2)
        case measure => omega
        case rel => exact ⟨2, rfl, by omega, rfl, OE'⟩
      · have HO' := HO.out
        obtain ⟨gg, cc, hvv, hcc, HC⟩ := OC.at HO' (by simp)
        subst hvv
        have HC' : Hid (∀ j b, ([s.b0, s.b1, s.b2, s.b3, s.b0, s.b1, s.b4] : List Nat)[j]? = some b → wr.cell? ⟨gg, j, none⟩ = some (.pointer (some ⟨b, 0, none⟩))) := HC
        simp only [List.length_append, List.length_cons, List.length_nil, Nat.reduceAdd] at hcc
        clear HC
        clear HO HO' a0 a1 a2 a3
        go_wp2_with fail
        go_loopg [68] 7 (fun g sl wq => ∃ i : Nat, sl = .int .i64 (i : Nat) ∧ i ≤ 7 ∧ g = 7 - i ∧ wq = wr ∧ Hid (((cands 1).drop i).find? (fun k => idOf k == id) = pick 1 id))
        case atStart => exact ⟨0, rfl, by omega, rfl, rfl, HF.out⟩
        case round =>
          obtain ⟨i, rfl, hi, hg, rfl, H⟩ := hrel
          by_cases hlt : i < 7
          · obtain ⟨k, hkk⟩ : ∃ k, (cands 1)[i]? = some k := ⟨(cands 1)[i]'hlt, List.getElem?_eq_getElem hlt⟩
            have hdr : Hid ((cands 1).drop i = k :: (cands 1).drop (i + 1)) := by
              have e := List.drop_eq_getElem_cons (l := cands 1) hlt
              rw [List.getElem?_eq_getElem hlt] at hkk
              rw [Option.some.inj hkk] at e
              exact e
            have hk6 : k < 6 := cands_lt (d := 1) (List.mem_of_getElem? hkk)
            have c1 := HC'.out i (s.b k) (by
              have e : ([s.b0, s.b1, s.b2, s.b3, s.b0, s.b1, s.b4] : List Nat) = (cands 1).map s.b := rfl
              rw [e, List.getElem?_map, hkk]; rfl)
            have c2 := (T1.cell (p := ⟨s.b k, 0, none⟩) (by have := (HT.out.id hk6).1; simp only; omega)).trans (HT.out.id hk6).2
            have il := idOf_lt k
            have i1 : (i : Int) < 7 := by omega
            clear hkk
            by_cases hq : id = idOf k
            · have H2 : Hid (pick 1 id = some k) := by
                have := H.out
                rw [hdr.out, List.find?_cons, show (idOf k == id) = true by simpa using hq.symm] at this
                exact this.symm
              clear H hdr HF
              subst hq
              go_wp2_with fail
              go_ret
              exact ⟨congrArg (fun z => Ending.returned (ptrOf s z)) H2.out.symm, T1⟩
            · have H2 : Hid (((cands 1).drop (i + 1)).find? (fun k => idOf k == id) = pick 1 id) := by
                have := H.out
                rw [hdr.out, List.find?_cons, show (idOf k == id) = false by simpa using fun e => hq e.symm] at this
                exact this
              clear H hdr HF
              have hq1 : ((idOf k : Int) == (id : Int)) = false := by simpa using fun e => hq (by omega)
              have hq2 : ¬ (idOf k : Int) = (id : Int) := fun e => hq (by omega)
              generalize idOf k = ik at *
              go_wp2_with fail
              go_roundg (7 - (i + 1))
              case measure => omega
              case rel => exact ⟨i + 1, rfl, by omega, rfl, rfl, H2⟩
          · have e : i = 7 := by omega
            subst e
            have H2 : Hid (pick 1 id = none) := H.out.symm
            clear H HF
            go_wp2_with fail
            go_ret
            exact ⟨congrArg (fun z => Ending.returned (ptrOf s z)) H2.out.symm, T1⟩
set_option maxHeartbeats 12800000 in
set_option maxRecDepth 100000 in
theorem sel4 {s : Shape} {N : Nat} {w : World} (t : Tree s N w) (hN : N ≤ w.heap.size) (id b : Nat) (hid : id < 65536)
    (hx : (w.cell? ⟨b, 1, none⟩ = some (.int .u8 4) ∧ w.cell? ⟨b, 2, none⟩ = some (.pointer (some ⟨s.b4, 0, none⟩))) ∨ b = s.b4) :
    Calls Ybaf.prog 14 #[.pointer (some ⟨s.b0, 0, none⟩), .pointer (some ⟨b, 0, none⟩), .int .u16 (id : Nat)] w fun e w' => e = .returned (ptrOf s (pick 4 id)) ∧ Below w.heap.size w w' := by
  have HT := hide t
  have HF := hide (find_cands (d := 4) (by decide) id)
  have f1 := t.get 29 (g := s.b4) (o := 1) (v := .int .u8 2) rfl
  have f2 := (t.get 30 (g := s.b4) (o := 2) (v := .pointer (some ⟨s.b0, 0, none⟩)) rfl).2
  have f3 := (t.get 31 (g := s.b4) (o := 3) (v := .slice (some ⟨s.c4, 0, none⟩) 1 s.p4) rfl).2
  have fl : s.b4 < w.heap.size := Nat.lt_of_lt_of_le f1.1 hN
  have f1c := f1.2
  have hk := t.k4
  have g0 := (t.get 46 (g := s.c4) (o := 0) (v := .pointer (some ⟨s.b5, 0, none⟩)) rfl).2
  have gl : s.c4 < w.heap.size := Nat.lt_of_lt_of_le (t.get 46 (g := s.c4) (o := 0) (v := .pointer (some ⟨s.b5, 0, none⟩)) rfl).1 hN
  have z3 := t.get 3 (g := s.b0) (o := 3) (v := .slice (some ⟨s.c0, 0, none⟩) 2 s.p0) rfl
  have zl : s.b0 < w.heap.size := Nat.lt_of_lt_of_le z3.1 hN
  have z3c := z3.2
  have hk0 := t.k0
  have k0 := t.get 42 (g := s.c0) (o := 0) (v := .pointer (some ⟨s.b1, 0, none⟩)) rfl
  have k1 := (t.get 43 (g := s.c0) (o := 1) (v := .pointer (some ⟨s.b4, 0, none⟩)) rfl).2
  have kl : s.c0 < w.heap.size := Nat.lt_of_lt_of_le k0.1 hN
  have k0c := k0.2
  have m1 := t.get 8 (g := s.b1) (o := 1) (v := .int .u8 2) rfl
  have m4 := t.get 29 (g := s.b4) (o := 1) (v := .int .u8 2) rfl
  have ml1 : s.b1 < w.heap.size := Nat.lt_of_lt_of_le m1.1 hN
  have ml4 : s.b4 < w.heap.size := Nat.lt_of_lt_of_le m4.1 hN
  have m1c := m1.2
  have m4c := m4.2
  clear z3 k0 m1 m4
  clear t f1
  go_enter Ybaf.func14, Ybaf.ntmps14
  rcases hx with ⟨x1, x2⟩ | rfl
  all_goals
    go_upto_region 5 with fail
    try clear x1 x2
    obtain ⟨hsz, hbel, hb0⟩ := alloc1 w (Obj.cells #[.pointer (some ⟨s.b0, 0, none⟩), .pointer (some ⟨s.b4, 0, none⟩)] 36)
    generalize w.alloc (Obj.cells #[.pointer (some ⟨s.b0, 0, none⟩), .pointer (some ⟨s.b4, 0, none⟩)] 36) = W at *
    have OA := OC.fresh hb0 hbel
    clear hb0 hsz
    have y3 : W.cell? ⟨s.b4, 3, none⟩ = some (.slice (some ⟨s.c4, 0, none⟩) 1 s.p4) := by rw [hbel.cell (by simpa using fl)]; exact f3
    obtain ⟨v1, W1, r1, OB⟩ := OA.append (qs := [s.b5]) (a := ⟨s.c4, 0, none⟩) (c := s.p4) (fun j b hj => by
      have hj' := (List.getElem?_eq_some_iff.1 hj).1
      simp only [List.length_cons, List.length_nil] at hj'
      have hjj : j = 0 := by omega
      rw [Addr.add_lit, hbel.cell (by simpa using gl)]
      rcases hjj with rfl <;> (simp at hj; subst hj; assumption)) (by simp) 42
    simp only [List.length_cons, List.length_nil, Nat.reduceAdd] at r1
    have HB := hide OB
    have T1 := OB.bel
    clear OA OB hbel
    have y2 : W1.cell? ⟨s.b4, 2, none⟩ = some (.pointer (some ⟨s.b0, 0, none⟩)) := by rw [T1.cell (by simpa using fl)]; exact f2

    obtain ⟨v2, W2, r2, OD⟩ := HB.out.one s.b0 (by simp) 42
    have OD' : Hid (OC w W2 v2 [s.b0, s.b4, s.b5, s.b0]) := OD
    have T2 := OD.bel
    clear OD HB
    have x2 : W2.cell? ⟨s.b4, 2, none⟩ = some (.pointer (some ⟨s.b0, 0, none⟩)) := by rw [T2.cell (by simpa using fl)]; exact f2
    have x3 : W2.cell? ⟨s.b0, 3, none⟩ = some (.slice (some ⟨s.c0, 0, none⟩) 2 s.p0) := by rw [T2.cell (by simpa using zl)]; exact z3c
    go_wp2_with (first | (at_builtin; refine Lib.wpList_append_run _ rfl _ _ 42 42 rfl _ _ rfl rfl _ _ r1 ?_) | (at_builtin; refine Lib.wpList_append_run _ rfl _ _ 42 42 rfl _ _ rfl rfl _ _ r2 ?_))
    clear r1 r2 x2 x3 y2 y3 T1 T2
    go_loopg [8, 52] 2 (fun g sv sl wr => ∃ i : Nat, sl = .int .i64 (i : Nat) ∧ i ≤ 2 ∧ g = 2 - i ∧ Hid (OC w wr sv ([s.b0, s.b4, s.b5, s.b0] ++ [s.b1, s.b4].take i)))
    case atStart => exact ⟨0, rfl, by omega, rfl, OD'⟩
    case round =>
      clear OD'
      obtain ⟨i, rfl, hi, hg, HO⟩ := hrel
      have hc : i = 0 ∨ i = 1 ∨ i = 2 := by omega
      have T1 := HO.out.bel
      have a0 : wr.cell? ⟨s.c0, 0, none⟩ = some (.pointer (some ⟨s.b1, 0, none⟩)) := by rw [T1.cell (by simpa using kl)]; exact k0c
      have a1 : wr.cell? ⟨s.c0, 1, none⟩ = some (.pointer (some ⟨s.b4, 0, none⟩)) := by rw [T1.cell (by simpa using kl)]; exact k1
      have a2 : wr.cell? ⟨s.b1, 1, none⟩ = some (.int .u8 2) := by rw [T1.cell (by simpa using ml1)]; exact m1c
      have a3 : wr.cell? ⟨s.b4, 1, none⟩ = some (.int .u8 2) := by rw [T1.cell (by simpa using ml4)]; exact m4c
      rcases hc with rfl | rfl | rfl
      · obtain ⟨v3, W3, r3, OE⟩ := HO.out.one s.b1 (by simp) 42
        have OE' : Hid (OC w W3 v3 ([s.b0, s.b4, s.b5, s.b0] ++ [s.b1, s.b4].take 1)) := OE
        clear OE HO
        go_wp2_with (at_builtin; refine Lib.wpList_append_run _ rfl _ _ 42 42 rfl _ _ rfl rfl _ _ r3 ?_)
        go_roundg (2 - 1)
        case measure => omega
        case rel => exact ⟨1, rfl, by omega, rfl, OE'⟩
      · obtain ⟨v3, W3, r3, OE⟩ := HO.out.one s.b4 (by simp) 42
        have OE' : Hid (OC w W3 v3 ([s.b0, s.b4, s.b5, s.b0] ++ [s.b1, s.b4].take 2)) := OE
        clear OE HO
        go_wp2_with (at_builtin; refine Lib.wpList_append_run _ rfl _ _ 42 42 rfl _ _ rfl rfl _ _ r3 ?_)
        go_roundg (2 - 2)
        case measure => omega
        case rel => exact ⟨2, rfl, by omega, rfl, OE'⟩
      · have HO' := HO.out
        obtain ⟨gg, cc, hvv, hcc, HC⟩ := OC.at HO' (by simp)
        subst hvv
        have HC' : Hid (∀ j b, ([s.b0, s.b4, s.b5, s.b0, s.b1, s.b4] : List Nat)[j]? = some b → wr.cell? ⟨gg, j, none⟩ = some (.pointer (some ⟨b, 0, none⟩))) := HC
        simp only [List.length_append, List.length_cons, List.length_nil, Nat.reduceAdd] at hcc
        clear HC
        clear HO HO' a0 a1 a2 a3
        go_wp2_with fail
        go_loopg [68] 6 (fun g sl wq => ∃ i : Nat, sl = .int .i64 (i : Nat) ∧ i ≤ 6 ∧ g = 6 - i ∧ wq = wr ∧ Hid (((cands 4).drop i).find? (fun k => idOf k == id) = pick 4 id))
        case atStart => exact ⟨0, rfl, by omega, rfl, rfl, HF.out⟩
        case round =>
          obtain ⟨i, rfl, hi, hg, rfl, H⟩ := hrel
          by_cases hlt : i < 6
          · obtain ⟨k, hkk⟩ : ∃ k, (cands 4)[i]? = some k := ⟨(cands 4)[i]'hlt, List.getElem?_eq_getElem hlt⟩
            have hdr : Hid ((cands 4).drop i = k :: (cands 4).drop (i + 1)) := by
              have e := List.drop_eq_getElem_cons (l := cands 4) hlt
              rw [List.getElem?_eq_getElem hlt] at hkk
              rw [Option.some.inj hkk] at e
              exact e
            have hk6 : k < 6 := cands_lt (d := 4) (List.mem_of_getElem? hkk)
            have c1 := HC'.out i (s.b k) (by
              have e : ([s.b0, s.b4, s.b5, s.b0, s.b1, s.b4] : List Nat) = (cands 4).map s.b := rfl
              rw [e, List.getElem?_map, hkk]; rfl)
            have c2 := (T1.cell (p := ⟨s.b k, 0, none⟩) (by have := (HT.out.id hk6).1; simp only; omega)).trans (HT.out.id hk6).2
            have il := idOf_lt k
            have i1 : (i : Int) < 6 := by omega
            clear hkk
            by_cases hq : id = idOf k
            · have H2 : Hid (pick 4 id = some k) := by
                have := H.out
                rw [hdr.out, List.find?_cons, show (idOf k == id) = true by simpa using hq.symm] at this
                exact this.symm
              clear H hdr HF
              subst hq
              go_wp2_with fail
              go_ret
              exact ⟨congrArg (fun z => Ending.returned (ptrOf s z)) H2.out.symm, T1⟩
            · have H2 : Hid (((cands 4).drop (i + 1)).find? (fun k => idOf k == id) = pick 4 id) := by
                have := H.out
                rw [hdr.out, List.find?_cons, show (idOf k == id) = false by simpa using fun e => hq e.symm] at this
                exact this
              clear H hdr HF
              have hq1 : ((idOf k : Int) == (id : Int)) = false := by simpa using fun e => hq (by omega)
              have hq2 : ¬ (idOf k : Int) = (id : Int) := fun e => hq (by omega)
              generalize idOf k = ik at *
              go_wp2_with fail
              go_roundg (6 - (i + 1))
              case measure => omega
              case rel => exact ⟨i + 1, rfl, by omega, rfl, rfl, H2⟩
          · have e : i = 6 := by omega
            subst e
            have H2 : Hid (pick 4 id = none) := H.out.symm
            clear H HF
            go_wp2_with fail
            go_ret
            exact ⟨congrArg (fun z => Ending.returned (ptrOf s z)) H2.out.symm, T1⟩
end Go.Proofs.YbulkdcggFmt
