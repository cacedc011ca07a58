/-
  The proof of 'Rows.LawS5177BRawSaid' and of its tied card.
-/
import Derived.Test.YbulkdceqDoorRaw
import Derived.Test.YbulkdceqDoorLaid
import Derived.Test.YbulkdceqDoorCards
import Derived.Below
import Derived.SevenTiedAt
namespace Go.Proofs.YbulkdceqDoor.lawS5177BRaw
open Go.ChangeShapes Go.WideShapes Go.ChangeAt Go.RowKit
set_option linter.unusedVariables false

/-- WHAT THE WALK IS TOLD OF A SLICE OF INTEGERS THAT CAME IN. -/
def IsRow (k : IntKind) (w : World) (a : Option Addr) (len cap : Nat) (zs : List Int) : Prop :=
  (a = none ∧ len = 0 ∧ cap = 0 ∧ zs = []) ∨
  ∃ x, a = some x ∧ len ≤ cap ∧ cap ≤ maxLen ∧ zs.length = cap ∧ (∀ i, i < zs.length → w.cell? (x.add i) = some (.int k (zs.getD i 0))) ∧ ∀ n ∈ zs, (Lit.int k n).wf = true

theorem arg_of_row {w : World} {a : Option Addr} {len cap : Nat} {zs : List Int} (h : IsRow .u8 w a len cap zs) : ∃ l : List UInt8, l.length = len ∧ ArgIs w w.heap.size (.slice a l.length cap) l := by
  rcases h with ⟨rfl, rfl, rfl, rfl⟩ | ⟨x, rfl, hl, hm, hz, hc, hw⟩
  · exact ⟨[], rfl, .inl ⟨rfl, rfl⟩⟩
  · refine ⟨(zs.take len).map (fun n => UInt8.ofNat n.toNat), by simp; omega, .inr ⟨x, cap, rfl, fun hne => ?_⟩⟩
    have hpos : 0 < len := by
      rcases Nat.eq_zero_or_pos len with e | e
      · subst e; simp at hne
      · exact e
    have h0 := hc 0 (by omega)
    obtain ⟨b, o, sp⟩ := x
    have hsp : sp = none := by
      cases sp with
      | none => rfl
      | some q =>
        exfalso
        simp only [World.cell?, Addr.add] at h0
        split at h0 <;> simp at h0
    subst hsp
    refine ⟨b, o, rfl, ?_, fun j hj => ?_⟩
    · simp only [World.cell?, Addr.add] at h0
      split at h0
      · rename_i hb
        exact (Array.getElem?_eq_some_iff.1 hb).1
      · simp at h0
    · have hj' : j < len := by simp at hj; omega
      have h := hc j (by omega)
      rw [Addr.add_lit] at h
      have hb := bounds_u8 (hw (zs[j]'(by omega)) (List.getElem_mem _))
      rw [h]
      have e1 : zs.getD j 0 = zs[j]'(by omega) := by simp [List.getD, show j < zs.length by omega]
      rw [e1]
      simp only [List.getElem_map, List.getElem_take]
      generalize zs[j]'(by omega) = z at hb
      have e2 : (UInt8.ofNat z.toNat).toNat = z.toNat := by simp; omega
      rw [e2, Int.toNat_of_nonneg hb.1]

theorem walk (a0 : Option Addr) (len0 cap0 : Nat) (z0 : List Int) (x1 : Bool) (w : World) (w0 : IsRow .u8 w a0 len0 cap0 z0)
    (ad : Addr) (hg : w.cell? ⟨0, 0, none⟩ = some (.iface 49 (.pointer (some ad)))) :
    Calls Ybad.prog 4 #[.slice a0 len0 cap0, .bool x1] w fun e w' => e = .returned (.bool true) ∧ Below w.heap.size w w' := by
  by_cases h : 4096 < len0
  · exact raw_long a0 len0 cap0 x1 w h
  · obtain ⟨l, rfl, hl⟩ := arg_of_row w0
    have hpos : 0 < w.heap.size := by
      simp only [World.cell?] at hg
      split at hg
      · rename_i hb
        exact (Array.getElem?_eq_some_iff.1 hb).1
      · simp at hg
    exact raw a0 cap0 l x1 ad w hl (by omega) hg hpos

set_option maxRecDepth 100000 in
theorem lifted (os : Os) (started : os.Started) (H : Type) (enc : TypeId × Value → H) :
    ReturnsInHanded {} Ybad.checked os 4 .any (fun w args => (Rows.lawS5177BRawSpec.pre enc Ybad.prog Ybad.f4 [] false w args ∧ laidMetH Ybad.prog Rows.lawS5177BRawRow.laid w) ∧ sizedMet enc Ybad.prog Ybad.f4 (OpenSpec.ofChange Rows.lawS5177BRawSpec) false w args)
      (Rows.lawS5177BRawSpec.post enc Ybad.prog Ybad.f4 false true false false) := by
  refine returnsInHanded_of_change_and (C := Ybad.checked) (X := fun w _ => laidMetH Ybad.prog Rows.lawS5177BRawRow.laid w) (fun _ _ _ hh h => h.of_heap hh) own started (by kernel_rfl) Ybad.func4
    (ChangeSpec.witness_shaped (enc := enc) (C := Ybad.checked) (os := os) (X := fun w _ => laidMetH Ybad.prog Rows.lawS5177BRawRow.laid w) false (World.doorLaid Ybad.prog 400 os) #[.slice none 0 0, .bool false] 8 rfl (World.shaped_of_RefB (by kernel_rfl) (by kernel_rfl)) (by kernel_rfl) (by kernel_rfl) (by kernel_rfl) (door_met os _)) ?_
  intro W base args ds gs before hval0 hW _ _ hL _
  have hval : ∀ (j : Nat) t v, Ybad.f4.params[j]? = some t → args[j]? = some v → Value.okWide Ybad.prog W .any base t v := hval0
  have hW' := hW
  obtain ⟨p, q, hA0, hV0, rfl, hfz, hnd⟩ := hW
  have hA : DataW.TrodAll enc Ybad.prog W 0 (fun _ => true) true Ybad.f4.params.toList args.toList ds p := hA0
  have hV : DataW.TrodVars enc Ybad.prog W (fun _ => true) [vn] gs q := hV0
  rw [Ybad.params4] at hA hval
  obtain ⟨v0, vs0, d0, ds0, p0, q0, hargs, rfl, rfl, h0, r0⟩ := trodAll_cons hA
  obtain ⟨v1, vs1, d1, ds1, p1, q1, rfl, rfl, rfl, h1, r1⟩ := trodAll_cons r0
  obtain ⟨rfl, rfl, rfl⟩ := trodAll_nil r1
  obtain rfl : args = #[v0, v1] := by cases args; simp_all
  obtain ⟨a0, len0, cap0, rfl⟩ := okWide_slice Ybad.underlying23 (hval 0 23 v0 rfl rfl)
  have k0 := h0
  have lt0 : ∀ x ∈ p0, x.block < W.heap.size := by obtain ⟨m, hm⟩ := k0; exact DataW.trod_lt m _ _ _ hm
  obtain ⟨z0, w0⟩ : ∃ zs, IsRow .u8 W a0 len0 cap0 zs := by
    obtain ⟨fuel, hf⟩ := h0
    rcases open_ints Ybad.underlying23 Ybad.underlying5 (by kernel_rfl) hf with ⟨hcs, _⟩ | ⟨x, l, c, zs, hcs, _, hl, hm, hz, _, hcell, hwz⟩
    · simp [Value.cells] at hcs
      obtain ⟨rfl, rfl, rfl⟩ := hcs
      exact ⟨[], .inl ⟨rfl, rfl, rfl, rfl⟩⟩
    · simp [Value.cells] at hcs
      obtain ⟨rfl, rfl, rfl⟩ := hcs
      exact ⟨zs, .inr ⟨_, rfl, hl, hm, by simpa using hz, hcell, hwz⟩⟩
  obtain ⟨x1, rfl, rfl, rfl⟩ := open_bool Ybad.underlying4 (hval 1 4 v1 rfl rfl) h1
  clear hA0 hval0
  obtain ⟨ad, hv, hg⟩ := sentinel_of hL
  obtain ⟨rfl, rfl⟩ := hV.unique (vars_read1 enc vn_global vn_type Ybad.underlying30 hv trivial _)
  have hpos : 0 < W.heap.size := by
    simp only [World.cell?] at hg
    split at hg
    · rename_i hb
      exact (Array.getElem?_eq_some_iff.1 hb).1
    · simp at hg
  refine (walk a0 len0 cap0 z0 x1 W w0 ad hg).mono fun e W' ⟨he, bel⟩ => ?_
  subst he
  have hv' : W'.var? Ybad.prog vn = some #[.iface 49 (.pointer (some ad))] := by
    rw [← hv]
    simp only [World.var?, vn_global, Option.bind_some, bel.block 0 hpos]
  exact ⟨_, rfl, _, _, _, [], _, [.cell 0 0], hW', trodAll_mk1 (shut_bool Ybad.underlying4 _), (trodAll_cons_mk (Below.trod laidOut (by kernel_rfl) (of_decide_eq_true (by kernel_rfl)) k0 bel lt0) (trodAll_cons_mk (shut_bool Ybad.underlying4 x1) trodAll_mk0)), vars_read1 enc vn_global vn_type Ybad.underlying30 hv' trivial _, bel.frame _, fun h => by cases h⟩

theorem over : Rows.LawS5177BRawSaid :=
  OpenClaim.holds_of_wide 4 Ybad.f4 rfl rfl rfl rfl rfl rfl rfl ⟨rfl, rfl, rfl, rfl, rfl⟩ rfl rfl rfl rfl rfl (by kernel_rfl) Ybad.func4 (by kernel_rfl)
    (of_decide_eq_true (by kernel_rfl)) (by unfold Func.isWrapper; first | (rw [if_pos (by decide +kernel)]; kernel_rfl) | (rw [if_neg (by decide +kernel)]; exact ⟨rfl, rfl⟩))
    (fun os started H enc _ => lifted os started H enc)

theorem proved : Rows.LawS5177BRawCardSaid :=
  Claim7.holds_tied_plain_at .later [] [.sentinel] true (true, "be0db7e107d649886c88b85daad727681e50d6fb8096b8b855dd4e3f0e8b5742") true
    over (fun _ h => by cases h) (by kernel_rfl) (fun _ h => by cases h) lawS5177BRaw_row_tie rfl ⟨rfl, rfl⟩ (by kernel_rfl) rfl
    (fun f fn hf hfn => by
      obtain rfl : f = 4 := Option.some.inj ((show Ybad.prog.funcNamed Rows.lawS5177BRawRow.func = some 4 by kernel_rfl).symm.trans hf) |>.symm
      obtain rfl : fn = Ybad.f4 := (Option.some.inj (Ybad.func4.symm.trans hfn)).symm
      exact ⟨by kernel_rfl, fun j t ht => by
        rw [Ybad.params4] at ht
        have hm : t ∈ [23, 4] := by simpa using Array.mem_of_getElem? ht
        have hall : ([23, 4].all fun u => !Ybad.prog.wantsStandIn u) = true := by kernel_rfl
        exact (show Ybad.prog.wantsStandIn t = false by simpa using List.all_eq_true.1 hall t hm)⟩)
    (by kernel_rfl)
end Go.Proofs.YbulkdceqDoor.lawS5177BRaw
