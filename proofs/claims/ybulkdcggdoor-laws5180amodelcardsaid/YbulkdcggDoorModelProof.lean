/-
  The proof of 'Rows.LawS5180AModelSaid' and of its tied card.
-/
import Derived.Test.YbulkdcggDoorModel
import Derived.Test.YbulkdcggDoorLaid
import Derived.Test.YbulkdcggDoorCards
import Derived.Below
import Derived.SevenTiedAt
namespace Go.Proofs.YbulkdcggDoor.lawS5180AModel
open Go.ChangeShapes Go.WideShapes Go.ChangeAt Go.RowKit
set_option linter.unusedVariables false

/-- WHAT THE WALK IS TOLD OF A SLICE OF INTEGERS THAT CAME IN. -/
def IsRow (k : IntKind) (w : World) (a : Option Addr) (len cap : Nat) (zs : List Int) : Prop :=
  (a = none ∧ len = 0 ∧ cap = 0 ∧ zs = []) ∨
  ∃ x, a = some x ∧ len ≤ cap ∧ cap ≤ maxLen ∧ zs.length = cap ∧ (∀ i, i < zs.length → w.cell? (x.add i) = some (.int k (zs.getD i 0))) ∧ ∀ n ∈ zs, (Lit.int k n).wf = true

theorem arg_of_row {w : World} {a : Option Addr} {len cap : Nat} {zs : List Int} (h : IsRow .u8 w a len cap zs) : ∃ l : List UInt8, SliceIs w w.heap.size (.slice a len cap) l := by
  rcases h with ⟨rfl, rfl, rfl, rfl⟩ | ⟨x, rfl, hl, hm, hz, hc, hw⟩
  · exact ⟨[], none, 0, rfl, by simp, by decide, fun h => absurd rfl h⟩
  · refine ⟨(zs.take len).map (fun n => UInt8.ofNat n.toNat), some x, cap, by simp; omega, by simp; omega, hm, fun hne => ?_⟩
    have hpos : 0 < len := by
      rcases Nat.eq_zero_or_pos len with e | e
      · subst e; simp at hne
      · exact e
    have h0 := hc 0 (by omega)
    obtain ⟨b, o, sp⟩ := x
    have hsp : sp = none := by
      cases sp with
      | none => rfl
      | some q =>
        exfalso
        simp only [World.cell?, Addr.add] at h0
        split at h0 <;> simp at h0
    subst hsp
    refine ⟨b, o, rfl, ?_, fun j hj => ?_⟩
    · simp only [World.cell?, Addr.add] at h0
      split at h0
      · rename_i hb
        exact (Array.getElem?_eq_some_iff.1 hb).1
      · simp at h0
    · have hj' : j < len := by simp at hj; omega
      have h := hc j (by omega)
      rw [Addr.add_lit] at h
      have hb := bounds_u8 (hw (zs[j]'(by omega)) (List.getElem_mem _))
      rw [h]
      have e1 : zs.getD j 0 = zs[j]'(by omega) := by simp [List.getD, show j < zs.length by omega]
      rw [e1]
      simp only [List.getElem_map, List.getElem_take]
      generalize zs[j]'(by omega) = z at hb
      have e2 : (UInt8.ofNat z.toNat).toNat = z.toNat := by simp; omega
      rw [e2, Int.toNat_of_nonneg hb.1]

theorem len16 {l : List UInt8} (h : l.length = 16) : ∃ b0 b1 b2 b3 b4 b5 b6 b7 c0 c1 c2 c3 c4 c5 c6 c7, l = [b0, b1, b2, b3, b4, b5, b6, b7, c0, c1, c2, c3, c4, c5, c6, c7] := by
  match l, h with
  | [b0, b1, b2, b3, b4, b5, b6, b7, c0, c1, c2, c3, c4, c5, c6, c7], _ => exact ⟨b0, b1, b2, b3, b4, b5, b6, b7, c0, c1, c2, c3, c4, c5, c6, c7, rfl⟩
theorem len6 {l : List UInt8} (h : l.length = 6) : ∃ b0 b1 b2 b3 b4 b5, l = [b0, b1, b2, b3, b4, b5] := by
  match l, h with
  | [b0, b1, b2, b3, b4, b5], _ => exact ⟨b0, b1, b2, b3, b4, b5, rfl⟩
def bytesV (l : List UInt8) : Value := .agg (l.map (fun b => Value.int .u8 (b.toNat : Int))).toArray

theorem walk (a0 : Int) (b1 : List UInt8) (a2 : Int) (b3 : List UInt8) (a4 : Option Addr) (len4 cap4 : Nat) (z4 : List Int) (w : World) (w0 : (Lit.int .u8 a0).wf = true) (w1 : b1.length = 16) (w2 : (Lit.int .u8 a2).wf = true) (w3 : b3.length = 16) (w4 : IsRow .u8 w a4 len4 cap4 z4) (p4 p6 : Addr) (hz : Zs w w.heap.size p4 p6) :
    Calls Ybad.prog 3 #[.int .u8 a0, bytesV b1, .int .u8 a2, bytesV b3, .slice a4 len4 cap4] w fun e w' => e = .returned (.bool true) ∧ Below w.heap.size w w' := by
  have c0 := bounds_u8 w0
  obtain ⟨n0, rfl⟩ := Int.eq_ofNat_of_zero_le c0.1
  obtain ⟨x1_0, x1_1, x1_2, x1_3, x1_4, x1_5, x1_6, x1_7, x1_8, x1_9, x1_10, x1_11, x1_12, x1_13, x1_14, x1_15, rfl⟩ := len16 w1
  have c2 := bounds_u8 w2
  obtain ⟨n2, rfl⟩ := Int.eq_ofNat_of_zero_le c2.1
  obtain ⟨x3_0, x3_1, x3_2, x3_3, x3_4, x3_5, x3_6, x3_7, x3_8, x3_9, x3_10, x3_11, x3_12, x3_13, x3_14, x3_15, rfl⟩ := len16 w3
  obtain ⟨l4, hl4⟩ := arg_of_row w4
  exact model_any hz n0 n2 (by omega) (by omega) x1_0 x1_1 x1_2 x1_3 x1_4 x1_5 x1_6 x1_7 x1_8 x1_9 x1_10 x1_11 x1_12 x1_13 x1_14 x1_15 x3_0 x3_1 x3_2 x3_3 x3_4 x3_5 x3_6 x3_7 x3_8 x3_9 x3_10 x3_11 x3_12 x3_13 x3_14 x3_15 hl4 (Nat.le_refl _)

set_option maxRecDepth 100000 in
theorem lifted (os : Os) (started : os.Started) (H : Type) (enc : TypeId × Value → H) :
    ReturnsInHanded {} Ybad.checked os 3 .any (fun w args => (Rows.lawS5180AModelSpec.pre enc Ybad.prog Ybad.f3 [] false w args ∧ laidMetH Ybad.prog Rows.lawS5180AModelRow.laid w) ∧ sizedMet enc Ybad.prog Ybad.f3 (OpenSpec.ofChange Rows.lawS5180AModelSpec) false w args)
      (Rows.lawS5180AModelSpec.post enc Ybad.prog Ybad.f3 false true false false) := by
  refine returnsInHanded_of_change_and (C := Ybad.checked) (X := fun w _ => laidMetH Ybad.prog Rows.lawS5180AModelRow.laid w) (fun _ _ _ hh h => h.of_heap hh) own started (by kernel_rfl) Ybad.func3
    (ChangeSpec.witness_shaped (enc := enc) (C := Ybad.checked) (os := os) (X := fun w _ => laidMetH Ybad.prog Rows.lawS5180AModelRow.laid w) false (World.laidAll Ybad.prog os Rows.lawS5180AModelRow.laid) #[.int .u8 0, .agg #[.int .u8 0, .int .u8 0, .int .u8 0, .int .u8 0, .int .u8 0, .int .u8 0, .int .u8 0, .int .u8 0, .int .u8 0, .int .u8 0, .int .u8 0, .int .u8 0, .int .u8 0, .int .u8 0, .int .u8 0, .int .u8 0], .int .u8 0, .agg #[.int .u8 0, .int .u8 0, .int .u8 0, .int .u8 0, .int .u8 0, .int .u8 0, .int .u8 0, .int .u8 0, .int .u8 0, .int .u8 0, .int .u8 0, .int .u8 0, .int .u8 0, .int .u8 0, .int .u8 0, .int .u8 0], .slice none 0 0] 8 (World.laidAll_os _ _ _) (World.shaped_of_ZipB (by kernel_rfl) (by kernel_rfl)) (by kernel_rfl) (by kernel_rfl) (by kernel_rfl) (door_met os _)) ?_
  intro W base args ds gs before hval0 hW _ _ hL _
  have hval : ∀ (j : Nat) t v, Ybad.f3.params[j]? = some t → args[j]? = some v → Value.okWide Ybad.prog W .any base t v := hval0
  have hW' := hW
  obtain ⟨p, q, hA0, hV0, rfl, hfz, hnd⟩ := hW
  have hA : DataW.TrodAll enc Ybad.prog W 0 (fun _ => true) true Ybad.f3.params.toList args.toList ds p := hA0
  rw [Ybad.params3] at hA hval
  obtain ⟨rfl, rfl⟩ := trodVars_none hV0
  obtain ⟨v0, vs0, d0, ds0, p0, q0, hargs, rfl, rfl, h0, r0⟩ := trodAll_cons hA
  obtain ⟨v1, vs1, d1, ds1, p1, q1, rfl, rfl, rfl, h1, r1⟩ := trodAll_cons r0
  obtain ⟨v2, vs2, d2, ds2, p2, q2, rfl, rfl, rfl, h2, r2⟩ := trodAll_cons r1
  obtain ⟨v3, vs3, d3, ds3, p3, q3, rfl, rfl, rfl, h3, r3⟩ := trodAll_cons r2
  obtain ⟨v4, vs4, d4, ds4, p4, q4, rfl, rfl, rfl, h4, r4⟩ := trodAll_cons r3
  obtain ⟨rfl, rfl, rfl⟩ := trodAll_nil r4
  obtain rfl : args = #[v0, v1, v2, v3, v4] := by cases args; simp_all
  obtain ⟨a0, rfl, rfl, rfl, w0⟩ := open_int Ybad.underlying5 (hval 0 5 v0 rfl rfl) h0
  have k1 := h1
  have lt1 : ∀ x ∈ p1, x.block < W.heap.size := by obtain ⟨m, hm⟩ := k1; exact DataW.trod_lt m _ _ _ hm
  obtain ⟨b1, w1, rfl⟩ := open_bytes Ybad.underlying22 (by kernel_rfl) (hval 1 22 v1 rfl rfl) h1
  obtain ⟨a2, rfl, rfl, rfl, w2⟩ := open_int Ybad.underlying5 (hval 2 5 v2 rfl rfl) h2
  have k3 := h3
  have lt3 : ∀ x ∈ p3, x.block < W.heap.size := by obtain ⟨m, hm⟩ := k3; exact DataW.trod_lt m _ _ _ hm
  obtain ⟨b3, w3, rfl⟩ := open_bytes Ybad.underlying22 (by kernel_rfl) (hval 3 22 v3 rfl rfl) h3
  obtain ⟨a4, len4, cap4, rfl⟩ := okWide_slice Ybad.underlying23 (hval 4 23 v4 rfl rfl)
  have k4 := h4
  have lt4 : ∀ x ∈ p4, x.block < W.heap.size := by obtain ⟨m, hm⟩ := k4; exact DataW.trod_lt m _ _ _ hm
  obtain ⟨z4, w4⟩ : ∃ zs, IsRow .u8 W a4 len4 cap4 zs := by
    obtain ⟨fuel, hf⟩ := h4
    rcases open_ints Ybad.underlying23 Ybad.underlying5 (by kernel_rfl) hf with ⟨hcs, _⟩ | ⟨x, l, c, zs, hcs, _, hl, hm, hz, _, hcell, hwz⟩
    · simp [Value.cells] at hcs
      obtain ⟨rfl, rfl, rfl⟩ := hcs
      exact ⟨[], .inl ⟨rfl, rfl, rfl, rfl⟩⟩
    · simp [Value.cells] at hcs
      obtain ⟨rfl, rfl, rfl⟩ := hcs
      exact ⟨zs, .inr ⟨_, rfl, hl, hm, by simpa using hz, hcell, hwz⟩⟩
  clear hA0 hval0
  obtain ⟨p4, p6, hz⟩ := zs_of hL
  refine (walk a0 b1 a2 b3 a4 len4 cap4 z4 W w0 w1 w2 w3 w4 p4 p6 hz).mono fun e W' ⟨he, bel⟩ => ?_
  subst he
  exact ⟨_, rfl, _, _, _, [], _, [], hW', trodAll_mk1 (shut_bool Ybad.underlying4 _), (trodAll_cons_mk (shut_int Ybad.underlying5 w0) (trodAll_cons_mk (Below.trod laidOut (by kernel_rfl) (of_decide_eq_true (by kernel_rfl)) k1 bel lt1) (trodAll_cons_mk (shut_int Ybad.underlying5 w2) (trodAll_cons_mk (Below.trod laidOut (by kernel_rfl) (of_decide_eq_true (by kernel_rfl)) k3 bel lt3) (trodAll_cons_mk (Below.trod laidOut (by kernel_rfl) (of_decide_eq_true (by kernel_rfl)) k4 bel lt4) trodAll_mk0))))), rfl, bel.frame _, fun h => by cases h⟩

theorem over : Rows.LawS5180AModelSaid :=
  OpenClaim.holds_of_wide 3 Ybad.f3 rfl rfl rfl rfl rfl rfl rfl ⟨rfl, rfl, rfl, rfl, rfl⟩ rfl rfl rfl rfl rfl (by kernel_rfl) Ybad.func3 (by kernel_rfl)
    (of_decide_eq_true (by kernel_rfl)) (by unfold Func.isWrapper; first | (rw [if_pos (by decide +kernel)]; kernel_rfl) | (rw [if_neg (by decide +kernel)]; exact ⟨rfl, rfl⟩))
    (fun os started H enc _ => lifted os started H enc)

theorem proved : Rows.LawS5180AModelCardSaid :=
  Claim7.holds_tied_plain_at .later [] [.called, .called, .zero] true (true, "0bd93f82cc6a499dde5a05cad5a4bef4def47f1232804cd443f5d1923b0530ae") false
    over (fun _ h => by cases h) (by kernel_rfl) (fun _ h => by cases h) lawS5180AModel_row_tie rfl ⟨rfl, rfl⟩ (by kernel_rfl) rfl
    (fun f fn hf hfn => by
      obtain rfl : f = 3 := Option.some.inj ((show Ybad.prog.funcNamed Rows.lawS5180AModelRow.func = some 3 by kernel_rfl).symm.trans hf) |>.symm
      obtain rfl : fn = Ybad.f3 := (Option.some.inj (Ybad.func3.symm.trans hfn)).symm
      exact ⟨by kernel_rfl, fun j t ht => by
        rw [Ybad.params3] at ht
        have hm : t ∈ [5, 22, 5, 22, 23] := by simpa using Array.mem_of_getElem? ht
        have hall : ([5, 22, 5, 22, 23].all fun u => !Ybad.prog.wantsStandIn u) = true := by kernel_rfl
        exact (show Ybad.prog.wantsStandIn t = false by simpa using List.all_eq_true.1 hall t hm)⟩)
    (by kernel_rfl)
end Go.Proofs.YbulkdcggDoor.lawS5180AModel
