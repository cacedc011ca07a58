/-
  THE WALK of slices.Insert at the front, in place.
-/
import Derived.Test.YbulkdckoInsert
namespace Go.Proofs.Ybulkdcko
open Go.RowKit

set_option maxHeartbeats 6400000 in
set_option maxRecDepth 100000 in
/-- Insert(s, 0, v...) where s has room -/
theorem insert_shift (w : World) (b off n c vb m vc : Nat) (cs vs : List Value) (cur curv : Array Value) (hn : 0 < n) (hm : 0 < m) (hroom : n + m ≤ c) (hc63 : c ≤ maxLen) (hbig : n + m ≤ 100000)
    (hvb : vb ≠ b) (hb : w.heap[b]? = some (.cells cur 41 (0, 0))) (hbs : cur.size = off + c * 2) (hv : w.heap[vb]? = some (.cells curv 41 (0, 0)))
    (hcl : cs.length = n * 2) (hvl : vs.length = m * 2) (hcs : ∀ j v, cs[j]? = some v → w.cell? ⟨b, off + j, none⟩ = some v) (hvs : ∀ j v, vs[j]? = some v → w.cell? ⟨vb, j, none⟩ = some v)
    (h1c : ∀ v ∈ cs, v.oneCell' = true) (h1v : ∀ v ∈ vs, v.oneCell' = true) :
    Calls Yba.prog 10 #[.slice (some ⟨b, off, none⟩) n c, .int .i64 0, .slice (some ⟨vb, 0, none⟩) m vc] w fun e w' => e = .returned (.slice (some ⟨b, off, none⟩) (n + m) c) ∧
      (∀ B, B ≤ b → Below B w w') ∧ (∀ x, x ≠ b → w'.heap[x]? = w.heap[x]?) ∧ (∃ cur', w'.heap[b]? = some (.cells cur' 41 (0, 0)) ∧ cur'.size = off + c * 2) ∧ ∀ j u, (vs ++ cs)[j]? = some u → w'.cell? ⟨b, off + j, none⟩ = some u := by
  have hbw : b < w.heap.size := (Array.getElem?_eq_some_iff.1 hb).1
  have hsome : ∀ j, j < (n + m) * 2 → (w.cell? ⟨b, off + j, none⟩).isSome = true := fun j hj => by
    rw [cell_of_cells hb, Array.getElem?_eq_getElem (by omega)]
    rfl
  have hfz : ∀ j, w.frozen? ⟨b, j, none⟩ = false := fun j => by simp [World.frozen?, hb]
  have hov : ∀ la ca, (callFunc 18 #[.slice (some ⟨vb, 0, none⟩) m vc, .slice (some ⟨b, off + m * 2, none⟩) la ca]).run Yba.prog w = .ok (.value (.bool false)) w := fun la ca => overlaps_no w vb 0 b (off + m * 2) m vc la ca hvb curv cur hv hb (by omega)
  have hcpA : ∃ W2, (Builtin.copy_ #[25, 25] 3 #[.slice (some ⟨b, off + m * 2, none⟩) (n + m - m) (c - m), .slice (some ⟨b, off, none⟩) (n + m) c]).run Yba.prog w.drew = .ok (goInt (Nat.min (n + m) (n + m - m) : Nat)) W2 ∧ W2 = w.drew.setCells b (off + m * 2) cs :=
    ⟨_, run_copy_pairs w.drew 25 25 3 41 b (off + m * 2) (n + m - m) (c - m) ⟨b, off, none⟩ (n + m) c cs Yba.underlying25 size41 (by rw [hcl]; simp only [Nat.min_def]; split <;> omega)
      (fun j v hj => by rw [Addr.add_lit]; exact hcs j v hj) (fun j hj => by rw [Nat.add_assoc]; exact hsome _ (by omega)) (fun j _ => hfz _) h1c, rfl⟩
  obtain ⟨W2, hA, e2⟩ := hcpA
  have hs2 : ∀ j, j < (n + m) * 2 → (W2.cell? ⟨b, off + j, none⟩).isSome = true := fun j hj => by
    rw [e2]
    exact isSome_setCells _ _ _ (fun j hj => by rw [Nat.add_assoc]; exact hsome _ (by omega)) _ (hsome j hj)
  have hcpB : ∃ W3, (Builtin.copy_ #[25, 25] 3 #[.slice (some ⟨b, off, none⟩) (n + m) c, .slice (some ⟨vb, 0, none⟩) m vc]).run Yba.prog W2 = .ok (goInt (Nat.min m (n + m) : Nat)) W3 ∧ W3 = W2.setCells b off vs :=
    ⟨_, run_copy_pairs W2 25 25 3 41 b off (n + m) c ⟨vb, 0, none⟩ m vc vs Yba.underlying25 size41 (by rw [hvl]; simp only [Nat.min_def]; split <;> omega)
      (fun j v hj => by
        rw [Addr.add_lit, Nat.zero_add, e2, World.cell?_of_block (w := w.drew) (setCells_far _ _ _ _ hvb)]
        exact hvs j v hj)
      (fun j hj => hs2 _ (by omega)) (fun j _ => by
        rw [e2, World.frozen?_setCells]
        exact hfz _) h1v, rfl⟩
  obtain ⟨W3, hB, e3⟩ := hcpB
  have fin : Hid ((∀ B, B ≤ b → Below B w W3) ∧ (∀ x, x ≠ b → W3.heap[x]? = w.heap[x]?) ∧ (∃ cur', W3.heap[b]? = some (.cells cur' 41 (0, 0)) ∧ cur'.size = off + c * 2) ∧ ∀ j u, (vs ++ cs)[j]? = some u → W3.cell? ⟨b, off + j, none⟩ = some u) := by
    refine ⟨fun B hB => ?_, fun x hx => ?_, ?_, fun j u hu => ?_⟩
    · rw [e3, e2]
      exact below_setCells hB _ _ _ _ (below_setCells hB _ _ _ _ ((Below.refl _ _).drew))
    · rw [e3, setCells_far _ _ _ _ hx, e2, setCells_far _ _ _ _ hx]
      rfl
    · obtain ⟨cur2, k1, k2⟩ := heap_setCells cs (off + m * 2) w.drew cur hb
      rw [← e2] at k1
      obtain ⟨cur3, k3, k4⟩ := heap_setCells vs off W2 cur2 k1
      rw [← e3] at k3
      exact ⟨cur3, k3, by omega⟩
    · rw [e3]
      by_cases hj : j < m * 2
      · rw [List.getElem?_append_left (by omega)] at hu
        exact get_setCells (b := b) vs off W2 (fun j hj => hs2 _ (by omega)) j u hu
      · rw [List.getElem?_append_right (by omega), hvl] at hu
        rw [World.cell?_setCells_out _ _ _ _ _ (fun _ _ => .inr (by show off + vs.length ≤ off + j; omega)), e2]
        have := get_setCells (b := b) cs (off + m * 2) w.drew (fun j hj => by rw [Nat.add_assoc]; exact hsome _ (by omega)) _ u hu
        rw [show off + m * 2 + (j - m * 2) = off + j by omega] at this
        exact this
  have hz1 : ¬ ((m : Int) = 0) := by omega
  have hz2 : ¬ ((0 : Int) = (n : Int)) := by omega
  have hz2' : ((0 : Int) == (n : Int)) = false := by simpa using hz2
  have hz3 : ¬ ((c : Int) < (n : Int) + (m : Int)) := by omega
  have hc64 : c ≤ 9223372036854775807 := by unfold maxLen at hc63; omega
  have hcm : ¬ (c = m) := by omega
  have hc0 : ¬ (c = 0) := by omega
  have hw1 : IntKind.i64.wrap (m : Int) = (m : Int) := by rw [IntKind.wrap_i64]; omega
  have hw2 : IntKind.i64.wrap ((n : Int) + (m : Int)) = (n : Int) + (m : Int) := by rw [IntKind.wrap_i64]; omega
  have hmn : m ≤ n + m := by omega
  have hmn' : (m : Int) ≤ (n : Int) + (m : Int) := by omega
  have htn : ((n : Int) + (m : Int)).toNat = n + m := by omega
  have hnm0 : (0 : Int) ≤ (n : Int) + (m : Int) := by omega
  clear hsome hfz hs2 e2 e3 hcs hvs hb hv hbs
  go_enter Yba.func10, Yba.ntmps10
  go_upto_region 15 with (simp only [hov])
  go_region_law (refine step_copy_runI rfl (.tmp 73) (.tmp 76) 25 25 rfl (.slice (some ⟨b, off + m * 2, none⟩) (n + m - m) (c - m)) (.slice (some ⟨b, off, none⟩) (n + m) c) (by simp [Act.eval, Act.put]) (by simp [Act.eval, Act.put]) hA ?_)
  all_goals
    go_wp2_with (at_builtin; refine wpList_copy_runI _ rfl _ _ 25 25 rfl _ _ rfl rfl hB ?_)
    go_ret
    exact ⟨rfl, fin.out⟩
end Go.Proofs.Ybulkdcko
