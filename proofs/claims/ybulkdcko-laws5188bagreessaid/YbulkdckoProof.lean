/-
  The proof of 'Rows.LawS5188BAgreesSaid'.
-/
import Derived.Test.YbulkdckoRows
import Derived.Test.YbulkdckoLaw
import Derived.WalkKit
import Derived.ProofKit
import Derived.OpenShut
import Derived.ChangeSlices
import Derived.ChangeOld
import Derived.Below
namespace Go.Proofs.Ybulkdcko.lawS5188BAgrees
open Go.ChangeShapes Go.WideShapes Go.ChangeAt Go.RowKit
set_option linter.unusedVariables false

theorem own : ownKnob Yba.prog.godebug = none := by kernel_rfl
theorem laidOut : laidOutB Yba.prog = true := by kernel_rfl
theorem cells5 : Yba.prog.cellsOf 5 = 1 := by kernel_rfl
theorem cells28 : Yba.prog.cellsOf 28 = 1 := by kernel_rfl
theorem cells29 : Yba.prog.cellsOf 29 = 1 := by kernel_rfl
theorem cells31 : Yba.prog.cellsOf 31 = 3 := by kernel_rfl

theorem num_of {H : Type} {enc : TypeId × Value → H} {W : World} {m : Nat} {ty : TypeId} {k : IntKind} (hu : Yba.prog.underlying ty = some (.int k)) {v : Value} {y : DataW H × List MemPlace} (h : DataW.trod enc Yba.prog W 0 (fun _ => true) true m ty [v] = some y) : ∃ n : Int, (Lit.int k n).wf = true ∧ v = .int k n := by
  cases m with
  | zero => simp [DataW.trod] at h
  | succ m =>
    cases v <;> simp [DataW.trod, hu] at h
    rename_i k' z
    obtain ⟨⟨rfl, hw⟩, _⟩ := h
    exact ⟨z, hw, rfl⟩

theorem script_of {H : Type} {enc : TypeId × Value → H} {W : World} {a : Option Addr} {len cap : Nat} {d : DataW H} {p : List MemPlace} (h : DataW.Trod enc Yba.prog W 0 (fun _ => true) true 22 (.slice a len cap) d p) : Script W (.slice a len cap) len := by
  obtain ⟨fuel, hf⟩ := h
  rcases DataW.trod_slice Yba.underlying22 hf with ⟨hcs, _⟩ | ⟨x, l, c, elems, rest, n, _, hcs, _, _, hl, hm, hlen, hel, _, _⟩
  · simp [Value.cells] at hcs
    obtain ⟨rfl, rfl, rfl⟩ := hcs
    exact ⟨none, 0, rfl, Nat.le_refl _, by decide, fun h => absurd h (by omega)⟩
  · simp [Value.cells] at hcs
    obtain ⟨rfl, rfl, rfl⟩ := hcs
    rw [cells31] at hel
    have key : ∀ i, i < len → ∃ v0 v1 v2 m y0 y1 y2, (∀ j, j < 3 → W.cell? ((x.add (i * 3)).add j) = [v0, v1, v2][j]?) ∧ DataW.trod enc Yba.prog W 0 (fun _ => true) true m 5 [v0] = some y0 ∧ DataW.trod enc Yba.prog W 0 (fun _ => true) true m 28 [v1] = some y1 ∧ DataW.trod enc Yba.prog W 0 (fun _ => true) true m 29 [v2] = some y2 := by
      intro i hi
      have h1 := hel i hi
      rw [List.getElem?_eq_getElem (by omega)] at h1
      obtain ⟨cs', h2, h3⟩ := Option.bind_eq_some_iff.1 h1
      obtain ⟨xs, m, _, _, hcl, hxl, hfd⟩ := DataW.trod_struct Yba.underlying31 h3
      rw [cells31] at hcl
      obtain ⟨v0, v1, v2, rfl⟩ : ∃ v0 v1 v2, cs' = [v0, v1, v2] := by
        match cs', hcl with
        | [v0, v1, v2], _ => exact ⟨v0, v1, v2, rfl⟩
      have hxl' : xs.length = 3 := hxl
      obtain ⟨y0, y1, y2, rfl⟩ : ∃ y0 y1 y2, xs = [y0, y1, y2] := by
        match xs, hxl' with
        | [y0, y1, y2], _ => exact ⟨y0, y1, y2, rfl⟩
      have f0 : DataW.trod enc Yba.prog W 0 (fun _ => true) true m 5 ((([v0, v1, v2] : List Value).drop 0).take (Yba.prog.cellsOf 5)) = some y0 := hfd 0 _ rfl
      rw [cells5] at f0
      have f1 : DataW.trod enc Yba.prog W 0 (fun _ => true) true m 28 ((([v0, v1, v2] : List Value).drop 1).take (Yba.prog.cellsOf 28)) = some y1 := hfd 1 _ rfl
      rw [cells28] at f1
      have f2 : DataW.trod enc Yba.prog W 0 (fun _ => true) true m 29 ((([v0, v1, v2] : List Value).drop 2).take (Yba.prog.cellsOf 29)) = some y2 := hfd 2 _ rfl
      rw [cells29] at f2
      obtain ⟨_, _, hc⟩ := World.cells?_some h2
      exact ⟨v0, v1, v2, m, y0, y1, y2, hc, f0, f1, f2⟩
    refine ⟨some x, cap, rfl, hl, hm, fun hpos => ?_⟩
    obtain ⟨w0, _, _, _, _, _, _, hc0, _⟩ := key 0 hpos
    have h0 := hc0 0 (by omega)
    obtain ⟨b, o, sp⟩ := x
    have hsp : sp = none := by
      cases sp with
      | none => rfl
      | some q =>
        exfalso
        simp only [World.cell?, Addr.add] at h0
        split at h0 <;> simp at h0
    subst hsp
    refine ⟨b, o, rfl, ?_, fun i hi => ?_⟩
    · simp only [World.cell?, Addr.add] at h0
      split at h0
      · rename_i hb
        exact (Array.getElem?_eq_some_iff.1 hb).1
      · simp at h0
    · obtain ⟨v0, v1, v2, m, y0, y1, y2, hc, t0, t1, t2⟩ := key i hi
      obtain ⟨n0, l0, rfl⟩ := num_of Yba.underlying5 t0
      obtain ⟨n1, l1, rfl⟩ := num_of Yba.underlying28 t1
      obtain ⟨n2, l2, rfl⟩ := num_of Yba.underlying29 t2
      have c0 := hc 0 (by omega)
      have c1 := hc 1 (by omega)
      have c2 := hc 2 (by omega)
      rw [Addr.add_lit, Addr.add_lit] at c0 c1 c2
      have b0 := bounds_u8 l0
      have b1 : 0 ≤ n1 ∧ n1 < 65536 := by
        simp [Lit.wf, IntKind.min, IntKind.max, IntKind.signed, IntKind.bits] at l1
        omega
      have b2 : 0 ≤ n2 ∧ n2 < 4294967296 := by
        simp [Lit.wf, IntKind.min, IntKind.max, IntKind.signed, IntKind.bits] at l2
        omega
      exact ⟨n0, n1, n2, c0, c1, c2, b0.1, by omega, b1.1, b1.2, b2.1, b2.2⟩

set_option maxRecDepth 100000 in
theorem lifted (os : Os) (started : os.Started) (H : Type) (enc : TypeId × Value → H) :
    ReturnsInHanded {} Yba.checked os 3 .any (Rows.lawS5188BAgreesSpec.pre6 enc Yba.prog Yba.f3 Rows.lawS5188BAgreesRow.domain false) (Rows.lawS5188BAgreesSpec.post enc Yba.prog Yba.f3 false true false false) := by
  refine returnsInHanded_of_change (C := Yba.checked) own started (by kernel_rfl) Yba.func3
    (ChangeSpec.witness6 (enc := enc) (C := Yba.checked) false ⟨#[], #[.slice none 0 0, .int .i64 0], []⟩ 8 (by kernel_rfl) (by kernel_rfl) (by kernel_rfl) (by kernel_rfl)) ?_
  intro W base args ds gs before hval0 hW hcnd _
  have hval : ∀ (j : Nat) t v, Yba.f3.params[j]? = some t → args[j]? = some v → Value.okWide Yba.prog W .any base t v := hval0
  have hW' := hW
  obtain ⟨p, q, hA0, hV, rfl, hfz, hnd⟩ := hW
  have hA : DataW.TrodAll enc Yba.prog W 0 (fun _ => true) true Yba.f3.params.toList args.toList ds p := hA0
  rw [Yba.params3] at hA hval
  obtain ⟨v0, vs0, d0, ds0, p0, q0, hargs, rfl, rfl, h0, r0⟩ := trodAll_cons hA
  obtain ⟨v1, vs1, d1, ds1, p1, q1, rfl, rfl, rfl, h1, r1⟩ := trodAll_cons r0
  obtain ⟨rfl, rfl, rfl⟩ := trodAll_nil r1
  obtain rfl : args = #[v0, v1] := by cases args; simp_all
  obtain ⟨rfl, rfl⟩ := trodVars_none hV
  obtain ⟨a0, len0, cap0, rfl⟩ := okWide_slice Yba.underlying22 (hval 0 22 v0 rfl rfl)
  obtain ⟨n1, rfl⟩ := okWide_int Yba.underlying2 (hval 1 2 v1 rfl rfl)
  have k0 := h0
  have lt0 : ∀ x ∈ p0, x.block < W.heap.size := by obtain ⟨m, hm⟩ := k0; exact DataW.trod_lt m _ _ _ hm
  have k1 := h1
  have lt1 : ∀ x ∈ p1, x.block < W.heap.size := by obtain ⟨m, hm⟩ := k1; exact DataW.trod_lt m _ _ _ hm
  have hs := script_of h0
  clear hA0 hval0
  refine (law_any hs n1).mono fun e W' ⟨he, bel⟩ => ?_
  subst he
  exact ⟨_, rfl, _, _, _, [], _, [], hW', trodAll_mk1 (shut_bool Yba.underlying4 _), (trodAll_cons_mk (Below.trod laidOut (by kernel_rfl) (of_decide_eq_true (by kernel_rfl)) k0 bel lt0) (trodAll_cons_mk (Below.trod laidOut (by kernel_rfl) (of_decide_eq_true (by kernel_rfl)) k1 bel lt1) trodAll_mk0)), rfl, bel.frame _, fun h => by cases h⟩

theorem over : Rows.lawS5188BAgreesRow.holds Yba.pinned (OpenSpec.ofChange Rows.lawS5188BAgreesSpec) :=
  OpenClaim.holds_of_wide 3 Yba.f3 rfl rfl rfl rfl rfl rfl rfl ⟨rfl, rfl, rfl, rfl, rfl⟩ rfl rfl rfl rfl rfl (by kernel_rfl) Yba.func3 (by kernel_rfl)
    (of_decide_eq_true (by kernel_rfl)) (by unfold Func.isWrapper; first | (rw [if_pos (by decide +kernel)]; kernel_rfl) | (rw [if_neg (by decide +kernel)]; exact ⟨rfl, rfl⟩))
    (fun os started H enc _ => lifted os started H enc)

theorem proved : Rows.LawS5188BAgreesSaid := over
end Go.Proofs.Ybulkdcko.lawS5188BAgrees
