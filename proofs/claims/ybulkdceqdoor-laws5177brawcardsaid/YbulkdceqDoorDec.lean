/-
  THE WALKS of the decoder's methods.
-/
import Derived.Test.YbulkdceqDoorRows
import Derived.Test.YbulkdceqDoorPlain
import Derived.Test.YbulkdceqDoorShelf
import Derived.WalkKit
import Derived.ProofKit
import Derived.Below
import Derived.LaidEql
import Derived.WideLaws
namespace Go.Proofs.YbulkdceqDoor
open Go.RowKit

/-- v is a slice of the bytes l, its array not in block D -/
def SliceIs (w : World) (D : Nat) (v : Value) (l : List UInt8) : Prop :=
  ∃ a c, v = .slice a l.length c ∧ l.length ≤ c ∧ c ≤ maxLen ∧ (l ≠ [] → ∃ g o, a = some ⟨g, o, none⟩ ∧ g < D ∧ ∀ j (hj : j < l.length), w.cell? ⟨g, o + j, none⟩ = some (.int .u8 (l[j]).toNat))

/-- nothing has turned but block D -/
structure Turned (D : Nat) (w w' : World) : Prop where
  os : w'.os = w.os
  tape : w'.tape = w.tape
  output : w'.output = w.output
  size : w'.heap.size = w.heap.size
  block : ∀ b, b ≠ D → w'.heap[b]? = w.heap[b]?
theorem Turned.refl (D : Nat) (w : World) : Turned D w w := ⟨rfl, rfl, rfl, rfl, fun _ _ => rfl⟩
theorem Turned.trans {D : Nat} {a b c : World} (h : Turned D a b) (k : Turned D b c) : Turned D a c :=
  ⟨k.os.trans h.os, k.tape.trans h.tape, k.output.trans h.output, k.size.trans h.size, fun i hi => (k.block i hi).trans (h.block i hi)⟩
theorem Turned.setCell (D o : Nat) (w : World) (v : Value) : Turned D w (w.setCell ⟨D, o, none⟩ v) :=
  ⟨rfl, rfl, rfl, by simp [World.setCell], fun _ hb => Below.heap_setCell _ _ _ _ hb⟩
theorem Turned.cell {D : Nat} {w w' : World} (h : Turned D w w') {p : Addr} (hp : p.block ≠ D) : w'.cell? p = w.cell? p := World.cell?_of_block (w := w) (h.block _ hp)

theorem SliceIs.turned {w w' : World} {D : Nat} {v : Value} {l : List UInt8} (h : SliceIs w D v l) (t : Turned D w w') : SliceIs w' D v l := by
  obtain ⟨a, c, rfl, h1, h2, h3⟩ := h
  refine ⟨a, c, rfl, h1, h2, fun hl => ?_⟩
  obtain ⟨g, o, rfl, hg, hc⟩ := h3 hl
  exact ⟨g, o, rfl, hg, fun j hj => by rw [t.cell (Nat.ne_of_lt hg)]; exact hc j hj⟩

/-- the decoder in block D: its bytes, its error -/
def DecIs (w : World) (D : Nat) (ev : Value) (l : List UInt8) (er : Bool) : Prop :=
  ∃ sv, w.heap[D]? = some (.cells #[sv, if er then ev else .nilIface] 32 (0, 0)) ∧ SliceIs w D sv l

theorem DecIs.c0 {w : World} {D : Nat} {ev : Value} {l : List UInt8} {er : Bool} (h : DecIs w D ev l er) : ∃ sv, w.cell? ⟨D, 0, none⟩ = some sv ∧ SliceIs w D sv l := by
  obtain ⟨sv, h1, h2⟩ := h
  exact ⟨sv, by simp [World.cell?, h1], h2⟩
theorem DecIs.c1 {w : World} {D : Nat} {ev : Value} {l : List UInt8} {er : Bool} (h : DecIs w D ev l er) : w.cell? ⟨D, 1, none⟩ = some (if er then ev else .nilIface) := by
  obtain ⟨sv, h1, h2⟩ := h
  simp [World.cell?, h1]
theorem DecIs.free {w : World} {D : Nat} {ev : Value} {l : List UInt8} {er : Bool} (h : DecIs w D ev l er) (o : Nat) : w.frozen? ⟨D, o, none⟩ = false := by
  obtain ⟨sv, h1, h2⟩ := h
  simp [World.frozen?, h1]
theorem DecIs.err {w : World} {D : Nat} {ev : Value} {l : List UInt8} {er : Bool} (h : DecIs w D ev l er) : DecIs (w.setCell ⟨D, 1, none⟩ ev) D ev l true := by
  obtain ⟨sv, h1, h2⟩ := h
  refine ⟨sv, ?_, h2.turned (Turned.setCell D 1 w ev)⟩
  simp [World.setCell, Array.getElem?_modify, h1]
theorem DecIs.cut {w : World} {D : Nat} {ev : Value} {l : List UInt8} {er : Bool} (h : DecIs w D ev l er) {v : Value} {l' : List UInt8} (hv : SliceIs w D v l') : DecIs (w.setCell ⟨D, 0, none⟩ v) D ev l' er := by
  obtain ⟨sv, h1, h2⟩ := h
  refine ⟨v, ?_, hv.turned (Turned.setCell D 0 w v)⟩
  simp [World.setCell, Array.getElem?_modify, h1]

/-- the slice from n on -/
theorem slice_from {w : World} {D : Nat} {g o len c : Nat} {l : List UInt8} (hl : l.length = len) (hc : len ≤ c) (hm : c ≤ maxLen) (hg : g < D) (hcell : ∀ j (hj : j < l.length), w.cell? ⟨g, o + j, none⟩ = some (.int .u8 (l[j]).toNat)) (n : Nat) (hn : n ≤ len) (A : Option Addr) (hA : A = if c = n then some ⟨g, o, none⟩ else some ⟨g, o + n, none⟩) :
    SliceIs w D (.slice A (len - n) (c - n)) (l.drop n) := by
  refine ⟨A, c - n, by simp [hl], by simp; omega, by omega, fun hne => ?_⟩
  have hlt : n < len := by
    rcases Nat.lt_or_ge n len with h | h
    · exact h
    · exact absurd (List.drop_eq_nil_of_le (by omega)) hne
  rw [if_neg (by omega)] at hA
  refine ⟨g, o + n, hA, hg, fun j hj => ?_⟩
  simp at hj
  rw [show o + n + j = o + (n + j) by omega, hcell (n + j) (by omega)]
  simp

set_option maxHeartbeats 800000 in
theorem fail_any {w : World} {D : Nat} {te : TypeId} {vp : Value} {l : List UInt8} {er : Bool} (d : DecIs w D (.iface te vp) l er) (hg : w.cell? ⟨0, 0, none⟩ = some (.iface te vp)) :
    Calls Ybad.prog 19 #[.pointer (some ⟨D, 0, none⟩)] w fun e w' => e = .returned (.tuple #[]) ∧ DecIs w' D (.iface te vp) l true ∧ Turned D w w' := by
  have h1 := d.c1
  have hf := d.free 1
  cases er
  · simp only [Bool.false_eq_true, if_false] at h1
    have A : Hid (DecIs (w.setCell ⟨D, 1, none⟩ (.iface te vp)) D (.iface te vp) l true) := d.err
    clear d
    go_enter Ybad.func19, Ybad.ntmps19
    go_wp2
    go_end0
    exact ⟨rfl, A, Turned.setCell D 1 w _⟩
  · simp only [if_true] at h1
    have A : Hid (DecIs w D (.iface te vp) l true) := d
    clear d
    go_enter Ybad.func19, Ybad.ntmps19
    go_wp2
    go_end0
    exact ⟨rfl, A, Turned.refl D w⟩

/-- binary.Uvarint of such a slice -/
theorem dec_call {w : World} {D : Nat} {v : Value} {l : List UInt8} (h : SliceIs w D v l) :
    Calls Ybad.prog 12 #[v] w fun e w' => e = .returned (.tuple #[.int .u64 (Lib.uvarintDec l).1, .int .i64 (Lib.uvarintDec l).2]) ∧ w' = w := by
  obtain ⟨a, c, rfl, h1, h2, h3⟩ := h
  cases l with
  | nil => exact Ybad.binary_Uvarint_empty a c w
  | cons b r =>
    obtain ⟨g, o, rfl, hg, hc⟩ := h3 (by simp)
    exact Ybad.binary_Uvarint g o _ c (b :: r) w rfl hc

set_option maxHeartbeats 1600000 in
theorem uvarint_any {w : World} {D : Nat} {te : TypeId} {vp : Value} {l : List UInt8} {er : Bool} (d : DecIs w D (.iface te vp) l er) (hg : w.cell? ⟨0, 0, none⟩ = some (.iface te vp)) :
    Calls Ybad.prog 16 #[.pointer (some ⟨D, 0, none⟩)] w fun e w' => e = .returned (.int .u64 (uv l er).1) ∧ DecIs w' D (.iface te vp) (uv l er).2.1 (uv l er).2.2 ∧ Turned D w w' := by
  have h1 := d.c1
  obtain ⟨sv, h0, hs⟩ := d.c0
  cases er
  · simp only [Bool.false_eq_true, if_false] at h1
    by_cases hn : (Lib.uvarintDec l).2 ≤ 0
    · have e1 : uv l false = (0, l, true) := by simp [uv, hn]
      rw [e1]
      have hd := dec_call hs
      have hx := fail_any d hg
      have A : Hid (Calls Ybad.prog 12 #[sv] w fun e w' => e = .returned (.tuple #[.int .u64 (Lib.uvarintDec l).1, .int .i64 (Lib.uvarintDec l).2]) ∧ w' = w) := hd
      have B : Hid (Calls Ybad.prog 19 #[.pointer (some ⟨D, 0, none⟩)] w fun e w' => e = .returned (.tuple #[]) ∧ DecIs w' D (.iface te vp) l true ∧ Turned D w w') := hx
      clear d hd hx hs e1
      generalize Lib.uvarintDec l = q at *
      go_enter Ybad.func16, Ybad.ntmps16
      go_wp2_with (first | (go_at_call 12; refine A.out.mono ?_; rintro e w' ⟨rfl, rfl⟩) | (go_at_call 19; refine B.out.mono ?_; rintro e w' ⟨rfl, hd1, ht1⟩))
      go_ret
      exact ⟨rfl, hd1, ht1⟩
    · have e1 : uv l false = ((Lib.uvarintDec l).1, l.drop (Lib.uvarintDec l).2.toNat, false) := by simp [uv, hn]
      rw [e1]
      have hle := dec_le l
      have hlt := Lib.uvarintDec_lt l
      have hd := dec_call hs
      have A : Hid (Calls Ybad.prog 12 #[sv] w fun e w' => e = .returned (.tuple #[.int .u64 (Lib.uvarintDec l).1, .int .i64 (Lib.uvarintDec l).2]) ∧ w' = w) := hd
      obtain ⟨a, c, rfl, h2, h3, h4⟩ := hs
      obtain ⟨g, o, rfl, hgD, hc⟩ := h4 (by intro e; subst e; simp at hle; omega)
      obtain ⟨n, hnn⟩ := Int.eq_ofNat_of_zero_le (show 0 ≤ (Lib.uvarintDec l).2 by omega)
      have B : Hid (∀ A, A = (if c = n then some (⟨g, o, none⟩ : Addr) else some ⟨g, o + n, none⟩) → DecIs (w.setCell ⟨D, 0, none⟩ (.slice A (l.length - n) (c - n))) D (.iface te vp) (l.drop n) false) :=
        fun A hA => d.cut (slice_from rfl h2 h3 hgD hc n (by omega) A hA)
      have hf := d.free 0
      clear d hd e1 hc h4
      generalize Lib.uvarintDec l = q at *
      obtain ⟨q1, q2⟩ := q
      simp only at hnn
      subst hnn
      have hle' : n ≤ l.length := by simpa using hle
      have hpos : 0 < n := by simp at hn; omega
      unfold maxLen at h3
      clear hle hn
      rw [Int.toNat_natCast]
      go_enter Ybad.func16, Ybad.ntmps16
      go_wp2_with (go_at_call 12; refine A.out.mono ?_; rintro e w' ⟨rfl, rfl⟩)
      all_goals go_ret
      · refine ⟨rfl, ?_, Turned.setCell D 0 _ _⟩
        have q := B.out _ rfl
        rw [if_pos (by assumption), show c - n = 0 by omega] at q
        exact q
      · exact ⟨rfl, B.out _ (by rw [if_neg (by assumption)]), Turned.setCell D 0 _ _⟩
  · have e1 : uv l true = (0, l, true) := by simp [uv]
    rw [e1]
    simp only [if_true] at h1
    have A : Hid (DecIs w D (.iface te vp) l true) := d
    clear d e1
    go_enter Ybad.func16, Ybad.ntmps16
    go_wp2
    go_ret
    exact ⟨rfl, A, Turned.refl D w⟩

set_option maxHeartbeats 1600000 in
theorem byte_any {w : World} {D : Nat} {te : TypeId} {vp : Value} {l : List UInt8} {er : Bool} (d : DecIs w D (.iface te vp) l er) (hg : w.cell? ⟨0, 0, none⟩ = some (.iface te vp)) :
    Calls Ybad.prog 17 #[.pointer (some ⟨D, 0, none⟩)] w fun e w' => e = .returned (.int .u8 (byt l er).1) ∧ DecIs w' D (.iface te vp) (byt l er).2.1 (byt l er).2.2 ∧ Turned D w w' := by
  have h1 := d.c1
  obtain ⟨sv, h0, hs⟩ := d.c0
  have B : Hid (Calls Ybad.prog 19 #[.pointer (some ⟨D, 0, none⟩)] w fun e w' => e = .returned (.tuple #[]) ∧ DecIs w' D (.iface te vp) l true ∧ Turned D w w') := fail_any d hg
  cases er
  · simp only [Bool.false_eq_true, if_false] at h1
    cases l with
    | nil =>
      have e1 : byt [] false = (0, [], true) := by simp [byt]
      rw [e1]
      obtain ⟨a, c, rfl, h2, h3, h4⟩ := hs
      clear d e1 h4
      go_enter Ybad.func17, Ybad.ntmps17
      go_wp2_with (go_at_call 19; refine B.out.mono ?_; rintro e w' ⟨rfl, hd1, ht1⟩)
      go_ret
      exact ⟨rfl, hd1, ht1⟩
    | cons b r =>
      have e1 : byt (b :: r) false = (b.toNat, r, false) := byt_read b r
      rw [e1]
      obtain ⟨a, c, rfl, h2, h3, h4⟩ := hs
      obtain ⟨g, o, rfl, hgD, hc⟩ := h4 (by simp)
      have hc0 : w.cell? ⟨g, o, none⟩ = some (.int .u8 b.toNat) := hc 0 (Nat.zero_lt_succ _)
      have C : Hid (∀ A, A = (if c = 1 then some (⟨g, o, none⟩ : Addr) else some ⟨g, o + 1, none⟩) → DecIs (w.setCell ⟨D, 0, none⟩ (.slice A ((b :: r).length - 1) (c - 1))) D (.iface te vp) r false) :=
        fun A hA => d.cut (slice_from rfl h2 h3 hgD hc 1 (by simp) A hA)
      have hf := d.free 0
      have hl : ((b :: r).length : Int) = (r.length : Int) + 1 := by simp
      have hz : (((b :: r).length : Int) == 0) = false := by rw [hl]; simp; omega
      unfold maxLen at h3
      simp only [List.length_cons] at h2 C hz
      clear d e1 hc h4 B hl
      go_enter Ybad.func17, Ybad.ntmps17
      go_wp2
      all_goals go_ret
      · refine ⟨rfl, ?_, Turned.setCell D 0 _ _⟩
        have q := C.out _ rfl
        rw [if_pos (by assumption), show c - 1 = 0 by omega] at q
        exact q
      · exact ⟨rfl, C.out _ (by rw [if_neg (by assumption)]), Turned.setCell D 0 _ _⟩
  · have e1 : byt l true = (0, l, true) := by simp [byt]
    rw [e1]
    simp only [if_true] at h1
    clear d e1
    go_enter Ybad.func17, Ybad.ntmps17
    go_wp2_with (go_at_call 19; refine B.out.mono ?_; rintro e w' ⟨rfl, hd1, ht1⟩)
    go_ret
    exact ⟨rfl, hd1, ht1⟩

/-- what 'bytes' hands back: nil where there is nothing -/
def KeyIs (w : World) (D : Nat) (v : Value) (l : List UInt8) : Prop :=
  (l = [] ∧ v = .slice none 0 0) ∨ ∃ g o c, l ≠ [] ∧ v = .slice (some ⟨g, o, none⟩) l.length c ∧ g < D ∧ ∀ j (hj : j < l.length), w.cell? ⟨g, o + j, none⟩ = some (.int .u8 (l[j]).toNat)
theorem KeyIs.turned {w w' : World} {D : Nat} {v : Value} {l : List UInt8} (h : KeyIs w D v l) (t : Turned D w w') : KeyIs w' D v l := by
  rcases h with h | ⟨g, o, c, h1, h2, h3, h4⟩
  · exact .inl h
  · exact .inr ⟨g, o, c, h1, h2, h3, fun j hj => by rw [t.cell (Nat.ne_of_lt h3)]; exact h4 j hj⟩

theorem bts_eq (l : List UInt8) (er : Bool) {n : Nat} {l' : List UInt8} {er' : Bool} (h : uv l er = (n, l', er')) :
    bts l er = if er' = true then ([], l', true) else if l'.length < n then ([], l', true) else (l'.take n, l'.drop n, false) := by
  unfold bts
  rw [h]

set_option maxHeartbeats 3200000 in
theorem bytes_any {w : World} {D : Nat} {te : TypeId} {vp : Value} {l : List UInt8} {er : Bool} (d : DecIs w D (.iface te vp) l er) (hg : w.cell? ⟨0, 0, none⟩ = some (.iface te vp)) (hD : 0 ≠ D) (hlen : l.length ≤ 100000) :
    Calls Ybad.prog 18 #[.pointer (some ⟨D, 0, none⟩)] w fun e w' => ∃ v, e = .returned v ∧ KeyIs w' D v (bts l er).1 ∧ DecIs w' D (.iface te vp) (bts l er).2.1 (bts l er).2.2 ∧ Turned D w w' := by
  have A : Hid (Calls Ybad.prog 16 #[.pointer (some ⟨D, 0, none⟩)] w fun e w' => e = .returned (.int .u64 (uv l er).1) ∧ DecIs w' D (.iface te vp) (uv l er).2.1 (uv l er).2.2 ∧ Turned D w w') := uvarint_any d hg
  have hlt := uv_lt l er
  have hle := uv_len l er
  obtain ⟨n, l', er', hu⟩ : ∃ n l' er', uv l er = (n, l', er') := ⟨_, _, _, rfl⟩
  rw [bts_eq l er hu]
  rw [hu] at A hlt hle
  clear hu d
  simp only at hlt hle
  cases er'
  · rw [if_neg (by simp)]
    by_cases hn : l'.length < n
    · rw [if_pos hn]
      have hnb : decide ((l'.length : Int) < (n : Int)) = true := by simpa using hn
      go_enter Ybad.func18, Ybad.ntmps18
      go_wp2_with fail
      refine A.out.mono ?_
      rintro e w1 ⟨rfl, d1, t1⟩
      have hg1 : w1.cell? ⟨0, 0, none⟩ = some (.iface te vp) := by rw [t1.cell hD]; exact hg
      have h1 := d1.c1
      obtain ⟨sv, h0, a, c, rfl, h2, h3, h4⟩ := d1.c0
      have B : Hid (Calls Ybad.prog 19 #[.pointer (some ⟨D, 0, none⟩)] w1 fun e w' => e = .returned (.tuple #[]) ∧ DecIs w' D (.iface te vp) l' true ∧ Turned D w1 w') := fail_any d1 hg1
      simp only [Bool.false_eq_true, if_false] at h1
      clear d1 h4
      go_wp2_with (go_at_call 19; refine B.out.mono ?_; rintro e w' ⟨rfl, hd1, ht1⟩)
      go_ret
      exact ⟨_, rfl, .inl ⟨rfl, rfl⟩, hd1, t1.trans ht1⟩
    · rw [if_neg hn]
      have hnb : decide ((l'.length : Int) < (n : Int)) = false := by simpa using hn
      by_cases hz : n = 0
      · subst hz
        go_enter Ybad.func18, Ybad.ntmps18
        go_wp2_with fail
        refine A.out.mono ?_
        rintro e w1 ⟨rfl, d1, t1⟩
        have h1 := d1.c1
        obtain ⟨sv, h0, a, c, rfl, h2, h3, h4⟩ := d1.c0
        simp only [Bool.false_eq_true, if_false] at h1
        have X : Hid (DecIs w1 D (.iface te vp) l' false) := d1
        clear d1 h4
        go_wp2
        go_ret
        exact ⟨_, rfl, .inl ⟨by simp, rfl⟩, by simpa using X.out, t1⟩
      · have hzb : ((n : Int) == 0) = false := by simp; omega
        go_enter Ybad.func18, Ybad.ntmps18
        go_wp2_with fail
        refine A.out.mono ?_
        rintro e w1 ⟨rfl, d1, t1⟩
        have h1 := d1.c1
        obtain ⟨sv, h0, a, c, rfl, h2, h3, h4⟩ := d1.c0
        simp only [Bool.false_eq_true, if_false] at h1
        obtain ⟨g, o, rfl, hgD, hc⟩ := h4 (by intro e; subst e; simp at hn; omega)
        have C : Hid (∀ A, A = (if c = n then some (⟨g, o, none⟩ : Addr) else some ⟨g, o + n, none⟩) → DecIs (w1.setCell ⟨D, 0, none⟩ (.slice A (l'.length - n) (c - n))) D (.iface te vp) (l'.drop n) false) :=
          fun A hA => d1.cut (slice_from rfl h2 h3 hgD hc n (by omega) A hA)
        have E : Hid (∀ w2, Turned D w1 w2 → ∀ c2, KeyIs w2 D (.slice (some ⟨g, o, none⟩) n c2) (l'.take n)) := by
          intro w2 t2 c2
          refine .inr ⟨g, o, c2, ?_, by rw [List.length_take, Nat.min_eq_left (by omega)], hgD, fun j hj => ?_⟩
          · intro e
            have := congrArg List.length e
            rw [List.length_take, List.length_nil] at this
            omega
          · simp at hj
            rw [t2.cell (Nat.ne_of_lt hgD), hc j (by omega)]
            simp
        have hf := d1.free 0
        unfold maxLen at h3
        have hn' : n ≤ l'.length := by omega
        clear d1 h4 hc hn
        go_wp2
        all_goals go_ret
        · refine ⟨_, rfl, E.out _ (Turned.setCell D 0 _ _) _, ?_, t1.trans (Turned.setCell D 0 _ _)⟩
          have q := C.out _ rfl
          rw [if_pos (by assumption), show c - n = 0 by omega] at q
          exact q
        · exact ⟨_, rfl, E.out _ (Turned.setCell D 0 _ _) _, C.out _ (by rw [if_neg (by assumption)]), t1.trans (Turned.setCell D 0 _ _)⟩
  · rw [if_pos rfl]
    go_enter Ybad.func18, Ybad.ntmps18
    go_wp2_with fail
    refine A.out.mono ?_
    rintro e w1 ⟨rfl, d1, t1⟩
    have hg1 : w1.cell? ⟨0, 0, none⟩ = some (.iface te vp) := by rw [t1.cell hD]; exact hg
    have h1 := d1.c1
    have B : Hid (Calls Ybad.prog 19 #[.pointer (some ⟨D, 0, none⟩)] w1 fun e w' => e = .returned (.tuple #[]) ∧ DecIs w' D (.iface te vp) l' true ∧ Turned D w1 w') := fail_any d1 hg1
    simp only [if_true] at h1
    clear d1
    go_wp2_with (go_at_call 19; refine B.out.mono ?_; rintro e w' ⟨rfl, hd1, ht1⟩)
    go_ret
    exact ⟨_, rfl, .inl ⟨rfl, rfl⟩, hd1, t1.trans ht1⟩

set_option maxHeartbeats 400000 in
theorem known_any (x : Nat) (hx : x < 256) (w : World) :
    Calls Ybad.prog 15 #[.int .u8 x] w fun e w' => e = .returned (.bool (decide (x < 5))) ∧ w' = w := by
  go_enter Ybad.func15, Ybad.ntmps15
  go_wp2
  go_ret
  exact ⟨by simp; omega, rfl⟩

/-- blocks that were there are as they were, but for block D; new ones may have come -/
structure TurnedUp (D : Nat) (w w' : World) : Prop where
  os : w'.os = w.os
  tape : w'.tape = w.tape
  output : w'.output = w.output
  size : w.heap.size ≤ w'.heap.size
  block : ∀ b, b ≠ D → b < w.heap.size → w'.heap[b]? = w.heap[b]?

/-- inside 'command': the decoder, and the command's own variable in block S + 1 -/
structure Cx (w W : World) (D : Nat) (ev : Value) (l : List UInt8) (er : Bool) (cs : Array Value) : Prop where
  dec : DecIs W D ev l er
  glob : W.cell? ⟨0, 0, none⟩ = some ev
  own : W.heap[w.heap.size + 1]? = some (.cells cs 36 (0, 0))
  res : ∃ r : Array Value, r.size = 6 ∧ W.heap[w.heap.size]? = some (.cells r 36 (0, 0))
  up : TurnedUp D w W
  lt : D < w.heap.size
  pos : 0 < D
theorem Cx.call {w W W' : World} {D : Nat} {ev : Value} {l l' : List UInt8} {er er' : Bool} {cs : Array Value} (x : Cx w W D ev l er cs) (d : DecIs W' D ev l' er') (t : Turned D W W') : Cx w W' D ev l' er' cs := by
  have h1 := x.lt
  have h2 := x.pos
  obtain ⟨r, r1, r2⟩ := x.res
  refine ⟨d, by rw [t.cell (by simp only; omega)]; exact x.glob, (t.block _ (by omega)).trans x.own, ⟨r, r1, (t.block _ (by omega)).trans r2⟩, ⟨t.os.trans x.up.os, t.tape.trans x.up.tape, t.output.trans x.up.output, by rw [t.size]; exact x.up.size, fun b hb hlt => (t.block b hb).trans (x.up.block b hb hlt)⟩, h1, h2⟩
theorem DecIs.up {w W : World} {D : Nat} {ev : Value} {l : List UInt8} {er : Bool} (d : DecIs w D ev l er) (h : ∀ b, b ≤ D → W.heap[b]? = w.heap[b]?) : DecIs W D ev l er := by
  obtain ⟨sv, h1, a, c, rfl, h2, h3, h4⟩ := d
  refine ⟨_, (h D (Nat.le_refl _)).trans h1, a, c, rfl, h2, h3, fun hl => ?_⟩
  obtain ⟨g, o, rfl, hg, hc⟩ := h4 hl
  exact ⟨g, o, rfl, hg, fun j hj => by rw [World.cell?_of_block (w := w) (h g (by omega))]; exact hc j hj⟩
theorem KeyIs.up {w W : World} {D : Nat} {v : Value} {l : List UInt8} (d : KeyIs w D v l) (h : ∀ b, b < D → W.heap[b]? = w.heap[b]?) : KeyIs W D v l := by
  rcases d with h1 | ⟨g, o, c, h1, h2, h3, h4⟩
  · exact .inl h1
  · exact .inr ⟨g, o, c, h1, h2, h3, fun j hj => by rw [World.cell?_of_block (w := w) (h g h3)]; exact h4 j hj⟩
theorem Cx.store {w W : World} {D : Nat} {ev : Value} {l : List UInt8} {er : Bool} {cs : Array Value} (x : Cx w W D ev l er cs) (i : Nat) (v : Value) : Cx w (W.setCell ⟨w.heap.size + 1, i, none⟩ v) D ev l er (cs.setIfInBounds i v) := by
  have h1 := x.lt
  have h2 := x.pos
  have hb : ∀ b, b ≠ w.heap.size + 1 → (W.setCell ⟨w.heap.size + 1, i, none⟩ v).heap[b]? = W.heap[b]? := fun b hb => Below.heap_setCell _ _ _ _ hb
  obtain ⟨r, r1, r2⟩ := x.res
  refine ⟨x.dec.up (fun b hb' => hb b (by omega)), by rw [World.cell?_of_block (w := W) (hb 0 (by omega))]; exact x.glob, ?_, ⟨r, r1, (hb _ (by omega)).trans r2⟩, ⟨x.up.os, x.up.tape, x.up.output, by simp [World.setCell]; exact x.up.size, fun b hb' hlt => (hb b (by omega)).trans (x.up.block b hb' hlt)⟩, h1, h2⟩
  simp [World.setCell, Array.getElem?_modify, x.own]
theorem Cx.cell {w W : World} {D : Nat} {ev : Value} {l : List UInt8} {er : Bool} {cs : Array Value} (x : Cx w W D ev l er cs) (i : Nat) : W.cell? ⟨w.heap.size + 1, i, none⟩ = cs[i]? := by
  simp [World.cell?, x.own]
theorem Cx.free {w W : World} {D : Nat} {ev : Value} {l : List UInt8} {er : Bool} {cs : Array Value} (x : Cx w W D ev l er cs) (i : Nat) : W.frozen? ⟨w.heap.size + 1, i, none⟩ = false := by
  simp [World.frozen?, x.own]

end Go.Proofs.YbulkdceqDoor
