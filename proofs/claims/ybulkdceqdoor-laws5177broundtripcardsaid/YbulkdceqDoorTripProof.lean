/-
  The proof of 'Rows.LawS5177BRoundTripSaid' and of its tied card.
-/
import Derived.Test.YbulkdceqDoorLaid
import Derived.Test.YbulkdceqDoorCards
import Derived.Below
import Derived.SevenTiedAt
namespace Go.Proofs.YbulkdceqDoor.lawS5177BRoundTrip
open Go.ChangeShapes Go.WideShapes Go.ChangeAt Go.RowKit
set_option linter.unusedVariables false

/-- WHAT THE WALK IS TOLD OF A SLICE OF INTEGERS THAT CAME IN. -/
def IsRow (k : IntKind) (w : World) (a : Option Addr) (len cap : Nat) (zs : List Int) : Prop :=
  (a = none ∧ len = 0 ∧ cap = 0 ∧ zs = []) ∨
  ∃ x, a = some x ∧ len ≤ cap ∧ cap ≤ maxLen ∧ zs.length = cap ∧ (∀ i, i < zs.length → w.cell? (x.add i) = some (.int k (zs.getD i 0))) ∧ ∀ n ∈ zs, (Lit.int k n).wf = true

theorem arg_of_row {w : World} {a : Option Addr} {len cap : Nat} {zs : List Int} (h : IsRow .u8 w a len cap zs) : ∃ l : List UInt8, l.length = len ∧ ArgIs w w.heap.size (.slice a l.length cap) l := by
  rcases h with ⟨rfl, rfl, rfl, rfl⟩ | ⟨x, rfl, hl, hm, hz, hc, hw⟩
  · exact ⟨[], rfl, .inl ⟨rfl, rfl⟩⟩
  · refine ⟨(zs.take len).map (fun n => UInt8.ofNat n.toNat), by simp; omega, .inr ⟨x, cap, rfl, fun hne => ?_⟩⟩
    have hpos : 0 < len := by
      rcases Nat.eq_zero_or_pos len with e | e
      · subst e; simp at hne
      · exact e
    have h0 := hc 0 (by omega)
    obtain ⟨b, o, sp⟩ := x
    have hsp : sp = none := by
      cases sp with
      | none => rfl
      | some q =>
        exfalso
        simp only [World.cell?, Addr.add] at h0
        split at h0 <;> simp at h0
    subst hsp
    refine ⟨b, o, rfl, ?_, fun j hj => ?_⟩
    · simp only [World.cell?, Addr.add] at h0
      split at h0
      · rename_i hb
        exact (Array.getElem?_eq_some_iff.1 hb).1
      · simp at h0
    · have hj' : j < len := by simp at hj; omega
      have h := hc j (by omega)
      rw [Addr.add_lit] at h
      have hb := bounds_u8 (hw (zs[j]'(by omega)) (List.getElem_mem _))
      rw [h]
      have e1 : zs.getD j 0 = zs[j]'(by omega) := by simp [List.getD, show j < zs.length by omega]
      rw [e1]
      simp only [List.getElem_map, List.getElem_take]
      generalize zs[j]'(by omega) = z at hb
      have e2 : (UInt8.ofNat z.toNat).toNat = z.toNat := by simp; omega
      rw [e2, Int.toNat_of_nonneg hb.1]

theorem walk (a0 a1 a2 : Int) (a3 : Option Addr) (len3 cap3 : Nat) (z3 : List Int) (a4 : Int) (a5 : Option Addr) (len5 cap5 : Nat) (z5 : List Int) (a6 : Option Addr) (len6 cap6 : Nat) (z6 : List Int) (w : World)
    (w0 : (Lit.int .u64 a0).wf = true) (w1 : (Lit.int .u64 a1).wf = true) (w2 : (Lit.int .u8 a2).wf = true) (w3 : IsRow .u8 w a3 len3 cap3 z3) (w4 : (Lit.int .u64 a4).wf = true) (w5 : IsRow .u8 w a5 len5 cap5 z5) (w6 : IsRow .u8 w a6 len6 cap6 z6)
    (ad : Addr) (hg : w.cell? ⟨0, 0, none⟩ = some (.iface 49 (.pointer (some ad)))) :
    Calls Ybad.prog 3 #[.int .u64 a0, .int .u64 a1, .int .u8 a2, .slice a3 len3 cap3, .int .u64 a4, .slice a5 len5 cap5, .slice a6 len6 cap6] w fun e w' => e = .returned (.bool true) ∧ Below w.heap.size w w' := by
  by_cases h : 4096 < len3 ∨ 4096 < len5 ∨ 4096 < len6
  · exact trip_long a0 a1 a2 a4 a3 a5 a6 len3 len5 len6 cap3 cap5 cap6 w h
  · obtain ⟨k, rfl, hk⟩ := arg_of_row w3
    obtain ⟨x, rfl, hx⟩ := arg_of_row w5
    obtain ⟨t, rfl, ht⟩ := arg_of_row w6
    have b0 := bounds_u64 w0
    have b1 := bounds_u64 w1
    have b2 := bounds_u8 w2
    have b4 := bounds_u64 w4
    obtain ⟨s, rfl⟩ := Int.eq_ofNat_of_zero_le b0.1
    obtain ⟨n, rfl⟩ := Int.eq_ofNat_of_zero_le b1.1
    obtain ⟨p, rfl⟩ := Int.eq_ofNat_of_zero_le b2.1
    obtain ⟨v, rfl⟩ := Int.eq_ofNat_of_zero_le b4.1
    have hpos : 0 < w.heap.size := by
      simp only [World.cell?] at hg
      split at hg
      · rename_i hb
        exact (Array.getElem?_eq_some_iff.1 hb).1
      · simp at hg
    exact trip s n p v a3 a5 a6 cap3 cap5 cap6 k x t 49 _ w (by omega) (by omega) (by omega) (by omega) hk hx ht (by omega) (by omega) (by omega) hg hpos

set_option maxRecDepth 100000 in
theorem lifted (os : Os) (started : os.Started) (H : Type) (enc : TypeId × Value → H) :
    ReturnsInHanded {} Ybad.checked os 3 .any (fun w args => (Rows.lawS5177BRoundTripSpec.pre enc Ybad.prog Ybad.f3 [] false w args ∧ laidMetH Ybad.prog Rows.lawS5177BRoundTripRow.laid w) ∧ sizedMet enc Ybad.prog Ybad.f3 (OpenSpec.ofChange Rows.lawS5177BRoundTripSpec) false w args)
      (Rows.lawS5177BRoundTripSpec.post enc Ybad.prog Ybad.f3 false true false false) := by
  refine returnsInHanded_of_change_and (C := Ybad.checked) (X := fun w _ => laidMetH Ybad.prog Rows.lawS5177BRoundTripRow.laid w) (fun _ _ _ hh h => h.of_heap hh) own started (by kernel_rfl) Ybad.func3
    (ChangeSpec.witness_shaped (enc := enc) (C := Ybad.checked) (os := os) (X := fun w _ => laidMetH Ybad.prog Rows.lawS5177BRoundTripRow.laid w) false (World.doorLaid Ybad.prog 400 os) #[.int .u64 0, .int .u64 0, .int .u8 0, .slice none 0 0, .int .u64 0, .slice none 0 0, .slice none 0 0] 8 rfl (World.shaped_of_RefB (by kernel_rfl) (by kernel_rfl)) (by kernel_rfl) (by kernel_rfl) (by kernel_rfl) (door_met os _)) ?_
  intro W base args ds gs before hval0 hW _ _ hL _
  have hval : ∀ (j : Nat) t v, Ybad.f3.params[j]? = some t → args[j]? = some v → Value.okWide Ybad.prog W .any base t v := hval0
  have hW' := hW
  obtain ⟨p, q, hA0, hV0, rfl, hfz, hnd⟩ := hW
  have hA : DataW.TrodAll enc Ybad.prog W 0 (fun _ => true) true Ybad.f3.params.toList args.toList ds p := hA0
  have hV : DataW.TrodVars enc Ybad.prog W (fun _ => true) [vn] gs q := hV0
  rw [Ybad.params3] at hA hval
  obtain ⟨v0, vs0, d0, ds0, p0, q0, hargs, rfl, rfl, h0, r0⟩ := trodAll_cons hA
  obtain ⟨v1, vs1, d1, ds1, p1, q1, rfl, rfl, rfl, h1, r1⟩ := trodAll_cons r0
  obtain ⟨v2, vs2, d2, ds2, p2, q2, rfl, rfl, rfl, h2, r2⟩ := trodAll_cons r1
  obtain ⟨v3, vs3, d3, ds3, p3, q3, rfl, rfl, rfl, h3, r3⟩ := trodAll_cons r2
  obtain ⟨v4, vs4, d4, ds4, p4, q4, rfl, rfl, rfl, h4, r4⟩ := trodAll_cons r3
  obtain ⟨v5, vs5, d5, ds5, p5, q5, rfl, rfl, rfl, h5, r5⟩ := trodAll_cons r4
  obtain ⟨v6, vs6, d6, ds6, p6, q6, rfl, rfl, rfl, h6, r6⟩ := trodAll_cons r5
  obtain ⟨rfl, rfl, rfl⟩ := trodAll_nil r6
  obtain rfl : args = #[v0, v1, v2, v3, v4, v5, v6] := by cases args; simp_all
  obtain ⟨a0, rfl, rfl, rfl, w0⟩ := open_int Ybad.underlying22 (hval 0 22 v0 rfl rfl) h0
  obtain ⟨a1, rfl, rfl, rfl, w1⟩ := open_int Ybad.underlying22 (hval 1 22 v1 rfl rfl) h1
  obtain ⟨a2, rfl, rfl, rfl, w2⟩ := open_int Ybad.underlying5 (hval 2 5 v2 rfl rfl) h2
  obtain ⟨a3, len3, cap3, rfl⟩ := okWide_slice Ybad.underlying23 (hval 3 23 v3 rfl rfl)
  have k3 := h3
  have lt3 : ∀ x ∈ p3, x.block < W.heap.size := by obtain ⟨m, hm⟩ := k3; exact DataW.trod_lt m _ _ _ hm
  obtain ⟨z3, w3⟩ : ∃ zs, IsRow .u8 W a3 len3 cap3 zs := by
    obtain ⟨fuel, hf⟩ := h3
    rcases open_ints Ybad.underlying23 Ybad.underlying5 (by kernel_rfl) hf with ⟨hcs, _⟩ | ⟨x, l, c, zs, hcs, _, hl, hm, hz, _, hcell, hwz⟩
    · simp [Value.cells] at hcs
      obtain ⟨rfl, rfl, rfl⟩ := hcs
      exact ⟨[], .inl ⟨rfl, rfl, rfl, rfl⟩⟩
    · simp [Value.cells] at hcs
      obtain ⟨rfl, rfl, rfl⟩ := hcs
      exact ⟨zs, .inr ⟨_, rfl, hl, hm, by simpa using hz, hcell, hwz⟩⟩
  obtain ⟨a4, rfl, rfl, rfl, w4⟩ := open_int Ybad.underlying22 (hval 4 22 v4 rfl rfl) h4
  obtain ⟨a5, len5, cap5, rfl⟩ := okWide_slice Ybad.underlying23 (hval 5 23 v5 rfl rfl)
  have k5 := h5
  have lt5 : ∀ x ∈ p5, x.block < W.heap.size := by obtain ⟨m, hm⟩ := k5; exact DataW.trod_lt m _ _ _ hm
  obtain ⟨z5, w5⟩ : ∃ zs, IsRow .u8 W a5 len5 cap5 zs := by
    obtain ⟨fuel, hf⟩ := h5
    rcases open_ints Ybad.underlying23 Ybad.underlying5 (by kernel_rfl) hf with ⟨hcs, _⟩ | ⟨x, l, c, zs, hcs, _, hl, hm, hz, _, hcell, hwz⟩
    · simp [Value.cells] at hcs
      obtain ⟨rfl, rfl, rfl⟩ := hcs
      exact ⟨[], .inl ⟨rfl, rfl, rfl, rfl⟩⟩
    · simp [Value.cells] at hcs
      obtain ⟨rfl, rfl, rfl⟩ := hcs
      exact ⟨zs, .inr ⟨_, rfl, hl, hm, by simpa using hz, hcell, hwz⟩⟩
  obtain ⟨a6, len6, cap6, rfl⟩ := okWide_slice Ybad.underlying23 (hval 6 23 v6 rfl rfl)
  have k6 := h6
  have lt6 : ∀ x ∈ p6, x.block < W.heap.size := by obtain ⟨m, hm⟩ := k6; exact DataW.trod_lt m _ _ _ hm
  obtain ⟨z6, w6⟩ : ∃ zs, IsRow .u8 W a6 len6 cap6 zs := by
    obtain ⟨fuel, hf⟩ := h6
    rcases open_ints Ybad.underlying23 Ybad.underlying5 (by kernel_rfl) hf with ⟨hcs, _⟩ | ⟨x, l, c, zs, hcs, _, hl, hm, hz, _, hcell, hwz⟩
    · simp [Value.cells] at hcs
      obtain ⟨rfl, rfl, rfl⟩ := hcs
      exact ⟨[], .inl ⟨rfl, rfl, rfl, rfl⟩⟩
    · simp [Value.cells] at hcs
      obtain ⟨rfl, rfl, rfl⟩ := hcs
      exact ⟨zs, .inr ⟨_, rfl, hl, hm, by simpa using hz, hcell, hwz⟩⟩
  clear hA0 hval0
  obtain ⟨ad, hv, hg⟩ := sentinel_of hL
  obtain ⟨rfl, rfl⟩ := hV.unique (vars_read1 enc vn_global vn_type Ybad.underlying30 hv trivial _)
  have hpos : 0 < W.heap.size := by
    simp only [World.cell?] at hg
    split at hg
    · rename_i hb
      exact (Array.getElem?_eq_some_iff.1 hb).1
    · simp at hg
  refine (walk a0 a1 a2 a3 len3 cap3 z3 a4 a5 len5 cap5 z5 a6 len6 cap6 z6 W w0 w1 w2 w3 w4 w5 w6 ad hg).mono fun e W' ⟨he, bel⟩ => ?_
  subst he
  have hv' : W'.var? Ybad.prog vn = some #[.iface 49 (.pointer (some ad))] := by
    rw [← hv]
    simp only [World.var?, vn_global, Option.bind_some, bel.block 0 hpos]
  exact ⟨_, rfl, _, _, _, [], _, [.cell 0 0], hW', trodAll_mk1 (shut_bool Ybad.underlying4 _), (trodAll_cons_mk (shut_int Ybad.underlying22 w0) (trodAll_cons_mk (shut_int Ybad.underlying22 w1) (trodAll_cons_mk (shut_int Ybad.underlying5 w2) (trodAll_cons_mk (Below.trod laidOut (by kernel_rfl) (of_decide_eq_true (by kernel_rfl)) k3 bel lt3) (trodAll_cons_mk (shut_int Ybad.underlying22 w4) (trodAll_cons_mk (Below.trod laidOut (by kernel_rfl) (of_decide_eq_true (by kernel_rfl)) k5 bel lt5) (trodAll_cons_mk (Below.trod laidOut (by kernel_rfl) (of_decide_eq_true (by kernel_rfl)) k6 bel lt6) trodAll_mk0))))))), vars_read1 enc vn_global vn_type Ybad.underlying30 hv' trivial _, bel.frame _, fun h => by cases h⟩

theorem over : Rows.LawS5177BRoundTripSaid :=
  OpenClaim.holds_of_wide 3 Ybad.f3 rfl rfl rfl rfl rfl rfl rfl ⟨rfl, rfl, rfl, rfl, rfl⟩ rfl rfl rfl rfl rfl (by kernel_rfl) Ybad.func3 (by kernel_rfl)
    (of_decide_eq_true (by kernel_rfl)) (by unfold Func.isWrapper; first | (rw [if_pos (by decide +kernel)]; kernel_rfl) | (rw [if_neg (by decide +kernel)]; exact ⟨rfl, rfl⟩))
    (fun os started H enc _ => lifted os started H enc)

theorem proved : Rows.LawS5177BRoundTripCardSaid :=
  Claim7.holds_tied_plain_at .later [] [.sentinel] true (true, "be0db7e107d649886c88b85daad727681e50d6fb8096b8b855dd4e3f0e8b5742") true
    over (fun _ h => by cases h) (by kernel_rfl) (fun _ h => by cases h) lawS5177BRoundTrip_row_tie rfl ⟨rfl, rfl⟩ (by kernel_rfl) rfl
    (fun f fn hf hfn => by
      obtain rfl : f = 3 := Option.some.inj ((show Ybad.prog.funcNamed Rows.lawS5177BRoundTripRow.func = some 3 by kernel_rfl).symm.trans hf) |>.symm
      obtain rfl : fn = Ybad.f3 := (Option.some.inj (Ybad.func3.symm.trans hfn)).symm
      exact ⟨by kernel_rfl, fun j t ht => by
        rw [Ybad.params3] at ht
        have hm : t ∈ [22, 22, 5, 23, 22, 23, 23] := by simpa using Array.mem_of_getElem? ht
        have hall : ([22, 22, 5, 23, 22, 23, 23].all fun u => !Ybad.prog.wantsStandIn u) = true := by kernel_rfl
        exact (show Ybad.prog.wantsStandIn t = false by simpa using List.all_eq_true.1 hall t hm)⟩)
    (by kernel_rfl)
end Go.Proofs.YbulkdceqDoor.lawS5177BRoundTrip
