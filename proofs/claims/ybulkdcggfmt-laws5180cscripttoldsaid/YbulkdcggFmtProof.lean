/-
  The proof of the told card of 'Rows.LawS5180CScriptToldSaid'.
-/
import Derived.Test.YbulkdcggFmtLaw
import Derived.Test.YbulkdcggFmtCards
import Derived.ProofKit
import Derived.ChangeSlices
import Derived.ChangeSame
import Derived.JoinedOf
import Derived.Carry
import Derived.Stop.JoinedAt
import Derived.Stop.JoinedTold
import Derived.SevenToldRow
import Derived.SizedLaws
import Derived.OpenShut
import Derived.ChangeOld
import Derived.RowKit
import Derived.Below
namespace Go.Proofs.YbulkdcggFmt.lawS5180CScript
open Go.ChangeShapes Go.WideShapes Go.ChangeAt Go.RowKit
set_option linter.unusedVariables false

theorem own : ownKnob Ybaf.prog.godebug = none := by kernel_rfl
theorem laidOut : laidOutB Ybaf.prog = true := by kernel_rfl
theorem cells5 : Ybaf.prog.cellsOf 5 = 1 := by kernel_rfl
theorem cells25 : Ybaf.prog.cellsOf 25 = 1 := by kernel_rfl
theorem cells48 : Ybaf.prog.cellsOf 48 = 5 := by kernel_rfl

theorem slice_of {w : World} {x : Addr} {len cap : Nat} {zs : List Int} (hl : len ≤ cap) (hm : cap ≤ maxLen) (hz : zs.length = cap) (hc : ∀ i, i < zs.length → w.cell? (x.add i) = some (.int .u8 (zs.getD i 0))) (hw : ∀ n ∈ zs, (Lit.int .u8 n).wf = true) :
    ∃ l : List UInt8, SliceIs w w.heap.size (.slice (some x) len cap) l := by
  refine ⟨(zs.take len).map (fun n => UInt8.ofNat n.toNat), some x, cap, by simp; omega, by simp; omega, hm, fun hne => ?_⟩
  have hpos : 0 < len := by
    rcases Nat.eq_zero_or_pos len with e | e
    · subst e; simp at hne
    · exact e
  have h0 := hc 0 (by omega)
  obtain ⟨b, o, sp⟩ := x
  have hsp : sp = none := by
    cases sp with
    | none => rfl
    | some q =>
      exfalso
      simp only [World.cell?, Addr.add] at h0
      split at h0 <;> simp at h0
  subst hsp
  refine ⟨b, o, rfl, ?_, fun j hj => ?_⟩
  · simp only [World.cell?, Addr.add] at h0
    split at h0
    · rename_i hb
      exact (Array.getElem?_eq_some_iff.1 hb).1
    · simp at h0
  · have hj' : j < len := by simp at hj; omega
    have h := hc j (by omega)
    rw [Addr.add_lit] at h
    have hb := bounds_u8 (hw (zs[j]'(by omega)) (List.getElem_mem _))
    rw [h]
    have e1 : zs.getD j 0 = zs[j]'(by omega) := by simp [List.getD, show j < zs.length by omega]
    rw [e1]
    simp only [List.getElem_map, List.getElem_take]
    generalize zs[j]'(by omega) = z at hb
    have e2 : (UInt8.ofNat z.toNat).toNat = z.toNat := by simp; omega
    rw [e2, Int.toNat_of_nonneg hb.1]

theorem byte_of {H : Type} {enc : TypeId × Value → H} {W : World} {sp : Nat → Bool} {m : Nat} {v : Value} {y : DataW H × List MemPlace} (h : DataW.trod enc Ybaf.prog W 0 sp true m 5 [v] = some y) : ∃ n : Nat, n < 256 ∧ v = .int .u8 (n : Nat) := by
  cases m with
  | zero => simp [DataW.trod] at h
  | succ m =>
    cases v <;> simp [DataW.trod, Ybaf.underlying5] at h
    rename_i k z
    obtain ⟨⟨rfl, hw⟩, _⟩ := h
    have hb := bounds_u8 hw
    exact ⟨z.toNat, by omega, by rw [Int.toNat_of_nonneg hb.1]⟩
theorem raw_of {H : Type} {enc : TypeId × Value → H} {W : World} {sp : Nat → Bool} (hsp : ∀ b, sp b = true) {m : Nat} {v : Value} {d : DataW H} {p : List MemPlace} (h : DataW.trod enc Ybaf.prog W 0 sp true m 25 [v] = some (d, p)) : ∃ l, SliceIs W W.heap.size v l := by
  obtain rfl : sp = fun _ => true := funext hsp
  rcases open_ints Ybaf.underlying25 Ybaf.underlying5 cells5 h with ⟨hcs, _⟩ | ⟨x, l, c, zs, hcs, _, hl, hm, hz, _, hcell, hwz⟩
  · simp only [List.cons.injEq, and_true] at hcs
    subst hcs
    exact ⟨[], none, 0, rfl, by simp, by decide, fun h => absurd rfl h⟩
  · simp only [List.cons.injEq, and_true] at hcs
    subst hcs
    exact slice_of hl hm (by simpa using hz) hcell hwz

theorem script_of {H : Type} {enc : TypeId × Value → H} {W : World} {a : Option Addr} {len cap : Nat} {d : DataW H} {p : List MemPlace} (h : DataW.Trod enc Ybaf.prog W 0 (fun _ => true) true 22 (.slice a len cap) d p) : Script W (.slice a len cap) len := by
  obtain ⟨fuel, hf⟩ := h
  rcases DataW.trod_slice Ybaf.underlying22 hf with ⟨hcs, _⟩ | ⟨x, l, c, elems, rest, n, _, hcs, _, _, hl, hm, hlen, hel, _, _⟩
  · simp [Value.cells] at hcs
    obtain ⟨rfl, rfl, rfl⟩ := hcs
    exact ⟨none, 0, rfl, Nat.le_refl _, by decide, fun h => absurd h (by omega)⟩
  · simp [Value.cells] at hcs
    obtain ⟨rfl, rfl, rfl⟩ := hcs
    rw [cells48] at hel
    have key : ∀ i, i < len → ∃ v0 v1 v2 v3 v4 m y0 y1 y2 y3 y4, (∀ j, j < 5 → W.cell? ((x.add (i * 5)).add j) = [v0, v1, v2, v3, v4][j]?) ∧ DataW.trod enc Ybaf.prog W 0 (fun _ => true) true m 5 [v0] = some y0 ∧ DataW.trod enc Ybaf.prog W 0 (fun _ => true) true m 5 [v1] = some y1 ∧ DataW.trod enc Ybaf.prog W 0 (fun _ => true) true m 5 [v2] = some y2 ∧ DataW.trod enc Ybaf.prog W 0 (fun _ => true) true m 5 [v3] = some y3 ∧ DataW.trod enc Ybaf.prog W 0 (fun _ => true) true m 25 [v4] = some y4 := by
      intro i hi
      have h1 := hel i hi
      rw [List.getElem?_eq_getElem (by omega)] at h1
      obtain ⟨cs', h2, h3⟩ := Option.bind_eq_some_iff.1 h1
      obtain ⟨xs, m, _, _, hcl, hxl, hfd⟩ := DataW.trod_struct Ybaf.underlying48 h3
      rw [cells48] at hcl
      obtain ⟨v0, v1, v2, v3, v4, rfl⟩ : ∃ v0 v1 v2 v3 v4, cs' = [v0, v1, v2, v3, v4] := by
        match cs', hcl with
        | [v0, v1, v2, v3, v4], _ => exact ⟨v0, v1, v2, v3, v4, rfl⟩
      have hxl' : xs.length = 5 := hxl
      obtain ⟨y0, y1, y2, y3, y4, rfl⟩ : ∃ y0 y1 y2 y3 y4, xs = [y0, y1, y2, y3, y4] := by
        match xs, hxl' with
        | [y0, y1, y2, y3, y4], _ => exact ⟨y0, y1, y2, y3, y4, rfl⟩
      have f0 : DataW.trod enc Ybaf.prog W 0 (fun _ => true) true m 5 ((([v0, v1, v2, v3, v4] : List Value).drop 0).take (Ybaf.prog.cellsOf 5)) = some y0 := hfd 0 _ rfl
      rw [cells5] at f0
      have f1 : DataW.trod enc Ybaf.prog W 0 (fun _ => true) true m 5 ((([v0, v1, v2, v3, v4] : List Value).drop 1).take (Ybaf.prog.cellsOf 5)) = some y1 := hfd 1 _ rfl
      rw [cells5] at f1
      have f2 : DataW.trod enc Ybaf.prog W 0 (fun _ => true) true m 5 ((([v0, v1, v2, v3, v4] : List Value).drop 2).take (Ybaf.prog.cellsOf 5)) = some y2 := hfd 2 _ rfl
      rw [cells5] at f2
      have f3 : DataW.trod enc Ybaf.prog W 0 (fun _ => true) true m 5 ((([v0, v1, v2, v3, v4] : List Value).drop 3).take (Ybaf.prog.cellsOf 5)) = some y3 := hfd 3 _ rfl
      rw [cells5] at f3
      have f4 : DataW.trod enc Ybaf.prog W 0 (fun _ => true) true m 25 ((([v0, v1, v2, v3, v4] : List Value).drop 4).take (Ybaf.prog.cellsOf 25)) = some y4 := hfd 4 _ rfl
      rw [cells25] at f4
      obtain ⟨_, _, hc⟩ := World.cells?_some h2
      exact ⟨v0, v1, v2, v3, v4, m, y0, y1, y2, y3, y4, hc, f0, f1, f2, f3, f4⟩
    refine ⟨some x, cap, rfl, hl, hm, fun hpos => ?_⟩
    obtain ⟨w0, _, _, _, _, _, _, _, _, _, _, hc0, _⟩ := key 0 hpos
    have h0 := hc0 0 (by omega)
    obtain ⟨b, o, sp⟩ := x
    have hsp : sp = none := by
      cases sp with
      | none => rfl
      | some q =>
        exfalso
        simp only [World.cell?, Addr.add] at h0
        split at h0 <;> simp at h0
    subst hsp
    refine ⟨b, o, rfl, ?_, fun i hi => ?_⟩
    · simp only [World.cell?, Addr.add] at h0
      split at h0
      · rename_i hb
        exact (Array.getElem?_eq_some_iff.1 hb).1
      · simp at h0
    · obtain ⟨v0, v1, v2, v3, v4, m, y0, y1, y2, y3, ⟨y4, q4⟩, hc, t0, t1, t2, t3, t4⟩ := key i hi
      obtain ⟨n0, l0, rfl⟩ := byte_of t0
      obtain ⟨n1, l1, rfl⟩ := byte_of t1
      obtain ⟨n2, l2, rfl⟩ := byte_of t2
      obtain ⟨n3, l3, rfl⟩ := byte_of t3
      obtain ⟨dl, hd⟩ := raw_of (fun _ => rfl) t4
      have c0 := hc 0 (by omega)
      have c1 := hc 1 (by omega)
      have c2 := hc 2 (by omega)
      have c3 := hc 3 (by omega)
      have c4 := hc 4 (by omega)
      rw [Addr.add_lit, Addr.add_lit] at c0 c1 c2 c3 c4
      exact ⟨n0, n1, n2, n3, v4, dl, ⟨c0, c1, c2, c3, c4, hd, l0, l1, l2, l3⟩⟩

set_option maxRecDepth 100000 in
theorem lifted (os : Os) (started : os.Started) (H : Type) (enc : TypeId × Value → H) :
    ReturnsInTold none {} Ybaf.checked os 3 .any Input.okWide ((OpenSpec.ofChange Rows.lawS5180CScriptSpec).preRow enc Ybaf.prog Ybaf.f3 [] false []) (fun F => ((OpenSpec.ofChange Rows.lawS5180CScriptSpec).at F).post enc Ybaf.prog Ybaf.f3 false true false false) (aloneAtReturn Ybaf.prog) nothingAlways := by
  refine returnsInTold_of_row (C := Ybaf.checked) (s := OpenSpec.ofChange Rows.lawS5180CScriptSpec) (by kernel_rfl) own started (by kernel_rfl) Ybaf.func3
    (OpenSpec.witness_stopped (enc := enc) (C := Ybaf.checked) false ⟨#[], #[.slice none 0 0], []⟩ 8 (by kernel_rfl) (by kernel_rfl) (by kernel_rfl) (by kernel_rfl)) ?_
  intro F W base args ds gs before _ hF hval0 hW _ _ hsz _ _
  have hval : ∀ (j : Nat) t v, Ybaf.f3.params[j]? = some t → args[j]? = some v → Value.okWide Ybaf.prog W .any base t v := hval0
  have hW' := hW
  obtain ⟨p, q, hA0, hV, rfl, _, _⟩ := hW
  have hA : DataW.TrodAll enc Ybaf.prog W 0 (fun _ => true) true Ybaf.f3.params.toList args.toList ds p := hA0
  rw [Ybaf.params3] at hA hval
  obtain ⟨v0, d0, rfl, rfl, h0⟩ := trodAll_one hA
  obtain ⟨rfl, rfl⟩ := trodVars_none hV
  obtain ⟨a0, len, cap, rfl⟩ := okWide_slice Ybaf.underlying22 (hval 0 22 v0 rfl rfl)
  have k0 := h0
  have lt0 : ∀ x ∈ p, x.block < W.heap.size := by obtain ⟨m, hm⟩ := k0; exact DataW.trod_lt m _ _ _ hm
  have hs := script_of h0
  clear hA0 hval0
  refine (law_any hs).mono fun e W' ⟨he, bel⟩ => ?_
  subst he
  exact ⟨_, rfl, _, _, _, [], _, [], hW', trodAll_mk1 (shut_bool Ybaf.underlying4 _), trodAll_mk1 (Below.trod laidOut (by kernel_rfl) (of_decide_eq_true (by kernel_rfl)) k0 bel lt0), rfl, bel.frame _, fun h => by cases h⟩

theorem stops : Ybaf.pinned.checked.prog.stops = ["fmt.Sprintf"] := by kernel_rfl
theorem stopKnobs : Ybaf.pinned.checked.prog.stopKnobs = [] := by kernel_rfl
theorem quiet (os : Os) : Stop.quiet Ybaf.pinned.checked.prog os := by
  intro k hk
  rw [stopKnobs] at hk
  cases hk

theorem proved : Rows.LawS5180CScriptToldSaid :=
  Claim7.holds_of_told_any (c := Rows.lawS5180CScriptRow) 3 Ybaf.f3 "fmt.Sprintf" [] [] (true, "52d187ea0e19683b8118e7c624f475c265849ab699e3cd33ac0eb31bd152f356") false false (by kernel_rfl) rfl rfl rfl laidOut (by kernel_rfl) rfl ⟨rfl, rfl, rfl, rfl, rfl, rfl, rfl⟩ rfl rfl (by kernel_rfl) (by kernel_rfl) Ybaf.func3 (by kernel_rfl)
    (of_decide_eq_true (by kernel_rfl)) (of_decide_eq_true (by kernel_rfl)) stops.symm rfl stopKnobs.symm (by kernel_rfl)
    (by kernel_rfl) (by kernel_rfl) (by kernel_rfl) (by kernel_rfl) (by kernel_rfl) (by kernel_rfl) (by kernel_rfl) (by kernel_rfl) (by kernel_rfl) rfl (by kernel_rfl) rfl rfl
    rfl rfl
    rfl (by kernel_rfl) (by kernel_rfl) (by kernel_rfl) (by decide) (by kernel_rfl)
    (OpenClaim.moreEntering_of (by kernel_rfl) (by kernel_rfl) (by kernel_rfl) (by kernel_rfl) (by kernel_rfl) (by kernel_rfl) (by kernel_rfl) (by kernel_rfl) (by kernel_rfl) (by kernel_rfl))
    ⟨_, WideRow.started_initial, quiet _⟩
    (fun os started _ H enc _ => lifted os started H enc)
end Go.Proofs.YbulkdcggFmt.lawS5180CScript
