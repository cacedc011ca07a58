/-
  THE WALKS of LawS5177BRaw's three closures: the law's own model of the decoder.
-/
import Derived.Test.YbulkdceqDoorTrip
namespace Go.Proofs.YbulkdceqDoor
open Go.RowKit

/-- the captured 'rest' (block R) and 'ok' (block K) -/
structure RS (w : World) (R K : Nat) (l : List UInt8) (er : Bool) : Prop where
  rest : ∃ sv, w.heap[R]? = some (.cells #[sv] 23 (0, 0)) ∧ SliceIs w R sv l
  ok : w.heap[K]? = some (.cells #[.bool (!er)] 4 (0, 0))
  lt : R < K
structure Turn2 (R K : Nat) (w w' : World) : Prop where
  os : w'.os = w.os
  tape : w'.tape = w.tape
  output : w'.output = w.output
  size : w'.heap.size = w.heap.size
  block : ∀ b, b ≠ R → b ≠ K → w'.heap[b]? = w.heap[b]?
theorem Turn2.refl (R K : Nat) (w : World) : Turn2 R K w w := ⟨rfl, rfl, rfl, rfl, fun _ _ _ => rfl⟩
theorem Turn2.trans {R K : Nat} {a b c : World} (h : Turn2 R K a b) (k : Turn2 R K b c) : Turn2 R K a c :=
  ⟨k.os.trans h.os, k.tape.trans h.tape, k.output.trans h.output, k.size.trans h.size, fun i h1 h2 => (k.block i h1 h2).trans (h.block i h1 h2)⟩
theorem Turn2.setR (R K : Nat) (w : World) (v : Value) : Turn2 R K w (w.setCell ⟨R, 0, none⟩ v) :=
  ⟨rfl, rfl, rfl, by simp [World.setCell], fun _ h1 _ => Below.heap_setCell _ _ _ _ h1⟩
theorem Turn2.setK (R K : Nat) (w : World) (v : Value) : Turn2 R K w (w.setCell ⟨K, 0, none⟩ v) :=
  ⟨rfl, rfl, rfl, by simp [World.setCell], fun _ _ h1 => Below.heap_setCell _ _ _ _ h1⟩

section
variable {w : World} {R K : Nat} {l : List UInt8} {er : Bool}
theorem RS.cellK (h : RS w R K l er) : w.cell? ⟨K, 0, none⟩ = some (.bool (!er)) := by simp [World.cell?, h.ok]
theorem RS.freeK (h : RS w R K l er) : w.frozen? ⟨K, 0, none⟩ = false := by simp [World.frozen?, h.ok]
theorem RS.cellR (h : RS w R K l er) : ∃ sv, w.cell? ⟨R, 0, none⟩ = some sv ∧ SliceIs w R sv l := by
  obtain ⟨sv, h1, h2⟩ := h.rest
  exact ⟨sv, by simp [World.cell?, h1], h2⟩
theorem RS.freeR (h : RS w R K l er) : w.frozen? ⟨R, 0, none⟩ = false := by
  obtain ⟨sv, h1, h2⟩ := h.rest
  simp [World.frozen?, h1]
theorem RS.fail (h : RS w R K l er) : RS (w.setCell ⟨K, 0, none⟩ (.bool false)) R K l true := by
  obtain ⟨sv, h1, h2⟩ := h.rest
  have hlt := h.lt
  refine ⟨⟨sv, (Below.heap_setCell _ _ _ _ (by simp only; omega)).trans h1, h2.up (fun b hb => Below.heap_setCell _ _ _ _ (by simp only; omega))⟩, ?_, hlt⟩
  simp [World.setCell, Array.getElem?_modify, h.ok]
theorem RS.cut (h : RS w R K l er) {v : Value} {l' : List UInt8} (hv : SliceIs w R v l') : RS (w.setCell ⟨R, 0, none⟩ v) R K l' er := by
  obtain ⟨sv, h1, h2⟩ := h.rest
  have hlt := h.lt
  refine ⟨⟨v, ?_, hv.up (fun b hb => Below.heap_setCell _ _ _ _ (by simp only; omega))⟩, (Below.heap_setCell _ _ _ _ (by simp only; omega)).trans h.ok, hlt⟩
  simp [World.setCell, Array.getElem?_modify, h1]
end

set_option maxHeartbeats 1600000 in
/-- uv() -/
theorem uvc_any {w : World} {R K : Nat} {l : List UInt8} {er : Bool} (d : RS w R K l er) :
    Calls Ybad.prog 11 #[.pointer (some ⟨K, 0, none⟩), .pointer (some ⟨R, 0, none⟩)] w fun e w' => e = .returned (.int .u64 (uv l er).1) ∧ RS w' R K (uv l er).2.1 (uv l er).2.2 ∧ Turn2 R K w w' := by
  have h1 := d.cellK
  obtain ⟨sv, h0, hs⟩ := d.cellR
  cases er
  · simp only [Bool.not_false] at h1
    by_cases hn : (Lib.uvarintDec l).2 ≤ 0
    · have e1 : uv l false = (0, l, true) := by simp [uv, hn]
      rw [e1]
      have A := hide (dec_call hs)
      have B := hide d.fail
      have hf := d.freeK
      clear d hs e1
      generalize Lib.uvarintDec l = q at *
      go_enter Ybad.func11, Ybad.ntmps11
      go_wp2_with (go_at_call 12; refine A.out.mono ?_; rintro e w' ⟨rfl, rfl⟩)
      go_ret
      exact ⟨rfl, B.out, Turn2.setK R K _ _⟩
    · have e1 : uv l false = ((Lib.uvarintDec l).1, l.drop (Lib.uvarintDec l).2.toNat, false) := by simp [uv, hn]
      rw [e1]
      have hle := dec_le l
      have hlt := Lib.uvarintDec_lt l
      have A := hide (dec_call hs)
      obtain ⟨a, c, rfl, h2, h3, h4⟩ := hs
      obtain ⟨g, o, rfl, hgD, hc⟩ := h4 (by intro e; subst e; simp at hle; omega)
      obtain ⟨n, hnn⟩ := Int.eq_ofNat_of_zero_le (show 0 ≤ (Lib.uvarintDec l).2 by omega)
      have B : Hid (∀ A, A = (if c = n then some (⟨g, o, none⟩ : Addr) else some ⟨g, o + n, none⟩) → RS (w.setCell ⟨R, 0, none⟩ (.slice A (l.length - n) (c - n))) R K (l.drop n) false) :=
        fun A hA => d.cut (slice_from rfl h2 h3 hgD hc n (by omega) A hA)
      have hf := d.freeR
      clear d e1 hc h4
      generalize Lib.uvarintDec l = q at *
      obtain ⟨q1, q2⟩ := q
      simp only at hnn
      subst hnn
      have hle' : n ≤ l.length := by simpa using hle
      have hpos : 0 < n := by simp at hn; omega
      unfold maxLen at h3
      clear hle hn
      rw [Int.toNat_natCast]
      go_enter Ybad.func11, Ybad.ntmps11
      go_wp2_with (go_at_call 12; refine A.out.mono ?_; rintro e w' ⟨rfl, rfl⟩)
      all_goals go_ret
      · refine ⟨rfl, ?_, Turn2.setR R K _ _⟩
        have q := B.out _ rfl
        rw [if_pos (by assumption), show c - n = 0 by omega] at q
        exact q
      · exact ⟨rfl, B.out _ (by rw [if_neg (by assumption)]), Turn2.setR R K _ _⟩
  · have e1 : uv l true = (0, l, true) := by simp [uv]
    rw [e1]
    simp only [Bool.not_true] at h1
    have A := hide d
    clear d e1
    go_enter Ybad.func11, Ybad.ntmps11
    go_wp2
    go_ret
    exact ⟨rfl, A.out, Turn2.refl R K w⟩

set_option maxHeartbeats 1600000 in
/-- by() -/
theorem byc_any {w : World} {R K : Nat} {l : List UInt8} {er : Bool} (d : RS w R K l er) :
    Calls Ybad.prog 13 #[.pointer (some ⟨K, 0, none⟩), .pointer (some ⟨R, 0, none⟩)] w fun e w' => e = .returned (.int .u8 (byt l er).1) ∧ RS w' R K (byt l er).2.1 (byt l er).2.2 ∧ Turn2 R K w w' := by
  have h1 := d.cellK
  obtain ⟨sv, h0, hs⟩ := d.cellR
  have B := hide d.fail
  have hfk := d.freeK
  cases er
  · simp only [Bool.not_false] at h1
    cases l with
    | nil =>
      have e1 : byt [] false = (0, [], true) := by simp [byt]
      rw [e1]
      obtain ⟨a, c, rfl, h2, h3, h4⟩ := hs
      clear d e1 h4
      go_enter Ybad.func13, Ybad.ntmps13
      go_wp2
      go_ret
      exact ⟨rfl, B.out, Turn2.setK R K _ _⟩
    | cons b r =>
      have e1 : byt (b :: r) false = (b.toNat, r, false) := byt_read b r
      rw [e1]
      obtain ⟨a, c, rfl, h2, h3, h4⟩ := hs
      obtain ⟨g, o, rfl, hgD, hc⟩ := h4 (by simp)
      have hc0 : w.cell? ⟨g, o, none⟩ = some (.int .u8 b.toNat) := hc 0 (Nat.zero_lt_succ _)
      have C : Hid (∀ A, A = (if c = 1 then some (⟨g, o, none⟩ : Addr) else some ⟨g, o + 1, none⟩) → RS (w.setCell ⟨R, 0, none⟩ (.slice A ((b :: r).length - 1) (c - 1))) R K r false) :=
        fun A hA => d.cut (slice_from rfl h2 h3 hgD hc 1 (by simp) A hA)
      have hf := d.freeR
      have hl : ((b :: r).length : Int) = (r.length : Int) + 1 := by simp
      have hz : (((b :: r).length : Int) == 0) = false := by rw [hl]; simp; omega
      unfold maxLen at h3
      simp only [List.length_cons] at h2 C hz
      clear d e1 hc h4 B hl
      go_enter Ybad.func13, Ybad.ntmps13
      go_wp2
      all_goals go_ret
      · refine ⟨rfl, ?_, Turn2.setR R K _ _⟩
        have q := C.out _ rfl
        rw [if_pos (by assumption), show c - 1 = 0 by omega] at q
        exact q
      · exact ⟨rfl, C.out _ (by rw [if_neg (by assumption)]), Turn2.setR R K _ _⟩
  · have e1 : byt l true = (0, l, true) := by simp [byt]
    rw [e1]
    simp only [Bool.not_true] at h1
    clear d e1
    go_enter Ybad.func13, Ybad.ntmps13
    go_wp2
    go_ret
    exact ⟨rfl, B.out, Turn2.setK R K _ _⟩

set_option maxHeartbeats 3200000 in
/-- bs() -/
theorem bsc_any {w : World} {R K U : Nat} {l : List UInt8} {er : Bool} (d : RS w R K l er)
    (hu : w.cell? ⟨U, 0, none⟩ = some (.func (.func 11) #[] #[.pointer (some ⟨K, 0, none⟩), .pointer (some ⟨R, 0, none⟩)])) (hlen : l.length ≤ 100000) :
    Calls Ybad.prog 14 #[.pointer (some ⟨U, 0, none⟩), .pointer (some ⟨K, 0, none⟩), .pointer (some ⟨R, 0, none⟩)] w fun e w' => ∃ v, e = .returned v ∧ KeyIs w' R v (bts l er).1 ∧ RS w' R K (bts l er).2.1 (bts l er).2.2 ∧ Turn2 R K w w' := by
  have A := hide (uvc_any d)
  have hlt := uv_lt l er
  have hle := uv_len l er
  obtain ⟨n, l', er', hu'⟩ : ∃ n l' er', uv l er = (n, l', er') := ⟨_, _, _, rfl⟩
  rw [bts_eq l er hu']
  rw [hu'] at A hlt hle
  clear hu' d
  simp only at hlt hle
  cases er'
  · rw [if_neg (by simp)]
    by_cases hn : l'.length < n
    · rw [if_pos hn]
      have hnb : decide ((l'.length : Int) < (n : Int)) = true := by simpa using hn
      go_enter Ybad.func14, Ybad.ntmps14
      go_wp2_with fail
      refine A.out.mono ?_
      rintro e w1 ⟨rfl, d1, t1⟩
      have h1 := d1.cellK
      have hf := d1.freeK
      obtain ⟨sv, h0, a, c, rfl, h2, h3, h4⟩ := d1.cellR
      have B := hide d1.fail
      simp only [Bool.not_false] at h1
      clear d1 h4
      go_wp2
      go_ret
      exact ⟨_, rfl, .inl ⟨rfl, rfl⟩, B.out, t1.trans (Turn2.setK R K _ _)⟩
    · rw [if_neg hn]
      have hnb : decide ((l'.length : Int) < (n : Int)) = false := by simpa using hn
      by_cases hz : n = 0
      · subst hz
        go_enter Ybad.func14, Ybad.ntmps14
        go_wp2_with fail
        refine A.out.mono ?_
        rintro e w1 ⟨rfl, d1, t1⟩
        have h1 := d1.cellK
        obtain ⟨sv, h0, a, c, rfl, h2, h3, h4⟩ := d1.cellR
        simp only [Bool.not_false] at h1
        have X := hide d1
        clear d1 h4
        go_wp2
        go_ret
        exact ⟨_, rfl, .inl ⟨by simp, rfl⟩, by simpa using X.out, t1⟩
      · have hzb : ((n : Int) == 0) = false := by simp; omega
        go_enter Ybad.func14, Ybad.ntmps14
        go_wp2_with fail
        refine A.out.mono ?_
        rintro e w1 ⟨rfl, d1, t1⟩
        have h1 := d1.cellK
        obtain ⟨sv, h0, a, c, rfl, h2, h3, h4⟩ := d1.cellR
        simp only [Bool.not_false] at h1
        obtain ⟨g, o, rfl, hgD, hc⟩ := h4 (by intro e; subst e; simp at hn; omega)
        have C : Hid (∀ A, A = (if c = n then some (⟨g, o, none⟩ : Addr) else some ⟨g, o + n, none⟩) → RS (w1.setCell ⟨R, 0, none⟩ (.slice A (l'.length - n) (c - n))) R K (l'.drop n) false) :=
          fun A hA => d1.cut (slice_from rfl h2 h3 hgD hc n (by omega) A hA)
        have E : Hid (∀ v, ∀ c2, KeyIs (w1.setCell ⟨R, 0, none⟩ v) R (.slice (some ⟨g, o, none⟩) n c2) (l'.take n)) := by
          intro v c2
          refine .inr ⟨g, o, c2, ?_, by rw [List.length_take, Nat.min_eq_left (by omega)], hgD, fun j hj => ?_⟩
          · intro e
            have := congrArg List.length e
            rw [List.length_take, List.length_nil] at this
            omega
          · simp at hj
            rw [World.cell?_of_block (w := w1) (Below.heap_setCell _ _ _ _ (by simp only; omega)), hc j (by omega)]
            simp
        have hf := d1.freeR
        unfold maxLen at h3
        have hn' : n ≤ l'.length := by omega
        clear d1 h4 hc hn
        go_wp2
        all_goals go_ret
        · refine ⟨_, rfl, E.out _ _, ?_, t1.trans (Turn2.setR R K _ _)⟩
          have q := C.out _ rfl
          rw [if_pos (by assumption), show c - n = 0 by omega] at q
          exact q
        · exact ⟨_, rfl, E.out _ _, C.out _ (by rw [if_neg (by assumption)]), t1.trans (Turn2.setR R K _ _)⟩
  · rw [if_pos rfl]
    go_enter Ybad.func14, Ybad.ntmps14
    go_wp2_with fail
    refine A.out.mono ?_
    rintro e w1 ⟨rfl, d1, t1⟩
    have h1 := d1.cellK
    have hf := d1.freeK
    have B := hide d1.fail
    simp only [Bool.not_true] at h1
    clear d1
    go_wp2
    go_ret
    exact ⟨_, rfl, .inl ⟨rfl, rfl⟩, B.out, t1.trans (Turn2.setK R K _ _)⟩
end Go.Proofs.YbulkdceqDoor
