/-
  THE WALK of slices.Insert at the front.
-/
import Derived.Test.YbulkdckoGrowE
import Derived.Shelf.Spec.SlicesInsert
import Derived.Lib.AppendZerosOnto
namespace Go.Proofs.Ybulkdcko
open Go.RowKit

theorem run_copy_pairs {P : Program} (w : World) (dT sT ty elem : TypeId) (b o dLen dCap : Nat) (a : Addr) (sLen sCap : Nat) (cs : List Value)
    (hu : P.underlying dT = some (.slice elem)) (hs : (P.info? elem).map (·.size) = some 2) (hn : cs.length = Nat.min sLen dLen * 2)
    (hsrc : ∀ j v, cs[j]? = some v → w.cell? (a.add j) = some v) (hc : ∀ j, j < cs.length → (w.cell? ⟨b, o + j, none⟩).isSome = true) (hf : ∀ j, j < cs.length → w.frozen? ⟨b, o + j, none⟩ = false) (h1 : ∀ v ∈ cs, v.oneCell' = true) :
    (Builtin.copy_ #[dT, sT] ty #[.slice (some ⟨b, o, none⟩) dLen dCap, .slice (some a) sLen sCap]).run P w = .ok (goInt (Nat.min sLen dLen : Nat)) (w.setCells b o cs) := by
  have hl := run_loadCells_list (P := P) w a cs hsrc
  have hst := run_storeCells_cells (P := P) b o cs 0 w (by simpa using hc) (by simpa using hf) h1
  cases hq : P.info? elem with
  | none => simp [hq] at hs
  | some i =>
    have hi : i.size = 2 := by simpa [hq] using hs
    simp [Builtin.copy_, run_underlying hu, Builtin.lenOf, Builtin.firstCells, sizeOf, typeInfo, hq, hi, ← hn, hl, hst]

theorem overlaps_no (w : World) (vb vo b o la ca lb cb : Nat) (hvb : vb ≠ b) (cur cur2 : Array Value) (h1 : w.heap[vb]? = some (.cells cur 41 (0, 0))) (h2 : w.heap[b]? = some (.cells cur2 41 (0, 0))) (h3 : cur2.size ≠ 0) :
    (callFunc 18 #[.slice (some ⟨vb, vo, none⟩) la ca, .slice (some ⟨b, o, none⟩) lb cb]).run Yba.prog w = .ok (.value (.bool false)) w := by
  have hz : ∀ w : World, (Go.sizeOf 41).run Yba.prog w = .ok 2 w := fun w => by
    obtain ⟨i0, hi0, hz0, hz1, hz2⟩ := info_parts info41
    simp [sizeOf, typeInfo, hi0, hz1]
  rw [run_callFunc_extern Yba.func18 (by kernel_rfl) (by kernel_rfl) (by kernel_rfl) (e := Extern.SlicesOverlaps.overlaps #[25, 25] #[4]) (by kernel_rfl),
    Lib.run_overlaps_apart w 25 4 41 Yba.underlying25 2 hz ⟨vb, vo, none⟩ ⟨b, o, none⟩ la ca lb cb hvb 41 41 cur.size cur2.size (by simp [World.shape?, h1]) (by simp [World.shape?, h2]) h3 (by simp [World.frozen?, h1]) (by simp [World.frozen?, h1])]
  rfl

set_option maxHeartbeats 6400000 in
set_option maxRecDepth 100000 in
/-- Insert(s, 0, v...) where s has no room: a new row -/
theorem insert_grow (w : World) (b off n c vb m vc : Nat) (cs vs : List Value) (hn : 0 < n) (hm : 0 < m) (hnc : n ≤ c) (hroom : c < n + m) (hbig : n + m ≤ 100000)
    (hcl : cs.length = n * 2) (hvl : vs.length = m * 2) (hcs : ∀ j v, cs[j]? = some v → w.cell? ⟨b, off + j, none⟩ = some v) (hvs : ∀ j v, vs[j]? = some v → w.cell? ⟨vb, j, none⟩ = some v)
    (h1c : ∀ v ∈ cs, v.oneCell' = true) (h1v : ∀ v ∈ vs, v.oneCell' = true) :
    Calls Yba.prog 10 #[.slice (some ⟨b, off, none⟩) n c, .int .i64 0, .slice (some ⟨vb, 0, none⟩) m vc] w fun e w' => ∃ G, e = .returned (.slice (some ⟨w.heap.size, 0, none⟩) (n + m) G) ∧ n + m ≤ G ∧ G ≤ maxLen ∧
      Below w.heap.size w w' ∧ (∃ cur, w'.heap[w.heap.size]? = some (.cells cur 41 (0, 0)) ∧ cur.size = G * 2) ∧ ∀ j u, (vs ++ cs)[j]? = some u → w'.cell? ⟨w.heap.size, j, none⟩ = some u := by
  obtain ⟨i0, hi0, hz0, hz1, hz2⟩ := info_parts info41
  have hbw : b < w.heap.size := World.block_lt_of_cell? w ⟨b, off + 0, none⟩ (hcs 0 _ (List.getElem?_eq_getElem (by omega)))
  have hvw : vb < w.heap.size := World.block_lt_of_cell? w ⟨vb, 0, none⟩ (hvs 0 _ (List.getElem?_eq_getElem (by omega)))
  have hrz := Lib.run_append_grow_zeros (P := Yba.prog) w 25 3 25 41 i0 _ .i64 .i64 Yba.underlying25 Yba.underlying3 hi0 hz0 (some ⟨b, off, none⟩) 0 c [] (by simp [Builtin.firstCells, loadCells, loadCellsFrom]) (n + m) (by omega) (by omega) (by omega) (by omega) (by rw [hz2]; omega) (by rw [hz2, Nat.zero_add]; exact growslice_fits hroom (by omega))
  rw [Nat.zero_add] at hrz
  have hge := grownCap_ge w (n + m) c 41
  have hle := grownCap_le_maxLen w (n + m) c 41 (by unfold maxLen; omega)
  generalize grownCap w (n + m) c 41 = G at *
  obtain ⟨row, hrow⟩ : ∃ row : Array Value, row = ([] : List Value).toArray ++ Builtin.zeroCells (Value.agg #[.slice none 0 0, .int .i64 0]).cells (n + m) ++ Builtin.zeroCells (Value.agg #[.slice none 0 0, .int .i64 0]).cells (G - (n + m)) := ⟨_, rfl⟩
  rw [← hrow] at hrz
  have hrs : row.size = G * 2 := by
    rw [hrow]
    simp only [Array.size_append, List.size_toArray, size_zeroCells, Value.cells, List.length_cons, List.length_nil]
    omega
  obtain ⟨x1, x2, x3⟩ := alloc1 w.drew (.cells row 41)
  have x3' : (w.drew.alloc (.cells row 41)).heap[w.heap.size]? = some (.cells row 41) := x3
  have x2' : Below w.heap.size w (w.drew.alloc (.cells row 41)) := ((Below.refl _ _).drew).trans x2
  clear x1 x2 x3 hrow
  generalize w.drew.alloc (.cells row 41) = W1 at *
  have hsome : ∀ j, j < (n + m) * 2 → (W1.cell? ⟨w.heap.size, j, none⟩).isSome = true := fun j hj => by
    rw [cell_of_cells x3', Array.getElem?_eq_getElem (by omega)]
    rfl
  have hfz : ∀ j, W1.frozen? ⟨w.heap.size, j, none⟩ = false := fun j => by simp [World.frozen?, x3']
  have hcpA : ∃ W2, (Builtin.copy_ #[25, 25] 3 #[.slice (some ⟨w.heap.size, 0, none⟩) (n + m) G, .slice (some ⟨vb, 0, none⟩) m vc]).run Yba.prog W1 = .ok (goInt (Nat.min m (n + m) : Nat)) W2 ∧ W2 = W1.setCells w.heap.size 0 vs :=
    ⟨_, run_copy_pairs W1 25 25 3 41 w.heap.size 0 (n + m) G ⟨vb, 0, none⟩ m vc vs Yba.underlying25 size41 (by rw [hvl]; simp only [Nat.min_def]; split <;> omega)
      (fun j v hj => by rw [Addr.add_lit, Nat.zero_add, x2'.cell (by exact hvw)]; exact hvs j v hj) (fun j hj => by rw [Nat.zero_add]; exact hsome j (by omega)) (fun j _ => hfz _) h1v, rfl⟩
  obtain ⟨W2, hA, e2⟩ := hcpA
  have hs2 : ∀ j, j < (n + m) * 2 → (W2.drew.cell? ⟨w.heap.size, j, none⟩).isSome = true := fun j hj => by
    show (W2.cell? ⟨w.heap.size, j, none⟩).isSome = true
    rw [e2]
    exact isSome_setCells _ _ _ (fun j hj => by rw [Nat.zero_add]; exact hsome j (by omega)) j (hsome j hj)
  have hcpB : ∃ W3, (Builtin.copy_ #[25, 25] 3 #[.slice (some ⟨w.heap.size, m * 2, none⟩) (n + m - m) (G - m), .slice (some ⟨b, off, none⟩) n c]).run Yba.prog W2.drew = .ok (goInt (Nat.min n (n + m - m) : Nat)) W3 ∧ W3 = W2.drew.setCells w.heap.size (m * 2) cs :=
    ⟨_, run_copy_pairs W2.drew 25 25 3 41 w.heap.size (m * 2) (n + m - m) (G - m) ⟨b, off, none⟩ n c cs Yba.underlying25 size41 (by rw [hcl]; simp only [Nat.min_def]; split <;> omega)
      (fun j v hj => by
        rw [Addr.add_lit]
        show W2.cell? ⟨b, off + j, none⟩ = some v
        rw [e2, World.cell?_of_block (w := W1) (setCells_far _ _ _ _ (by simp only; omega)), x2'.cell (by exact hbw)]
        exact hcs j v hj)
      (fun j hj => hs2 _ (by omega)) (fun j _ => by
        show W2.frozen? _ = false
        rw [e2, World.frozen?_setCells]
        exact hfz _) h1c, rfl⟩
  obtain ⟨W3, hB, e3⟩ := hcpB
  have fin : Hid (Below w.heap.size w W3 ∧ (∃ cur, W3.heap[w.heap.size]? = some (.cells cur 41 (0, 0)) ∧ cur.size = G * 2) ∧ ∀ j u, (vs ++ cs)[j]? = some u → W3.cell? ⟨w.heap.size, j, none⟩ = some u) := by
    refine ⟨?_, ?_, fun j u hu => ?_⟩
    · rw [e3, e2]
      exact below_setCells (Nat.le_refl _) _ _ _ _ (below_setCells (Nat.le_refl _) _ _ _ _ x2').drew
    · obtain ⟨cur2, k1, k2⟩ := heap_setCells vs 0 W1 row x3'
      rw [← e2] at k1
      obtain ⟨cur3, k3, k4⟩ := heap_setCells cs (m * 2) W2.drew cur2 k1
      rw [← e3] at k3
      exact ⟨cur3, k3, by omega⟩
    · rw [e3]
      by_cases hj : j < m * 2
      · rw [List.getElem?_append_left (by omega)] at hu
        rw [World.cell?_setCells_out _ _ _ _ _ (fun _ _ => .inl hj)]
        show W2.cell? _ = _
        rw [e2]
        have := get_setCells (b := w.heap.size) vs 0 W1 (fun j hj => by rw [Nat.zero_add]; exact hsome j (by omega)) j u hu
        rw [Nat.zero_add] at this
        exact this
      · rw [List.getElem?_append_right (by omega), hvl] at hu
        have := get_setCells (b := w.heap.size) cs (m * 2) W2.drew (fun j hj => hs2 _ (by omega)) _ u hu
        rw [show m * 2 + (j - m * 2) = j by omega] at this
        exact this
  have hz1 : ¬ ((m : Int) = 0) := by omega
  have hz2 : ¬ ((0 : Int) = (n : Int)) := by omega
  have hz2' : ((0 : Int) == (n : Int)) = false := by simpa using hz2
  have hz3 : (c : Int) < (n : Int) + (m : Int) := by omega
  have hG63 : G ≤ 9223372036854775807 := by unfold maxLen at hle; omega
  have hGm : ¬ (G = m) := by omega
  have hG0 : ¬ (G = 0) := by omega
  have hc0 : ¬ (c = 0) := by omega
  have hw1 : IntKind.i64.wrap (m : Int) = (m : Int) := by rw [IntKind.wrap_i64]; omega
  have hw2 : IntKind.i64.wrap ((n : Int) + (m : Int)) = (n : Int) + (m : Int) := by rw [IntKind.wrap_i64]; omega
  have hmn : m ≤ n + m := by omega
  have hmn' : (m : Int) ≤ (n : Int) + (m : Int) := by omega
  clear hsome hfz hs2 e2 e3 x2' x3' hcs hvs hi0 hz0 hrs
  have hrz' : (Builtin.append_ #[25, 3] 25 #[.slice (some ⟨b, off, none⟩) 0 c, .int .i64 ((n : Int) + (m : Int))]).run Yba.prog w = .ok (.slice (some ⟨w.heap.size, 0, none⟩) (n + m) G) W1 := by
    rw [← Int.natCast_add]
    exact hrz
  go_enter Yba.func10, Yba.ntmps10
  go_upto_region 11 with (first
    | (at_builtin; refine Lib.wpList_append_run _ rfl _ _ _ _ rfl _ _ rfl rfl _ _ hrz' ?_)
    | (at_builtin; refine wpList_copy_runI _ rfl _ _ 25 25 rfl _ _ rfl rfl hA ?_))
  go_region_law (refine step_copy_runI rfl (.tmp 50) (.tmp 53) 25 25 rfl (.slice (some ⟨w.heap.size, m * 2, none⟩) (n + m - m) (G - m)) (.slice (some ⟨b, off, none⟩) n c) (by simp [Act.eval, Act.put]) (by simp [Act.eval, Act.put]) hB ?_)
  all_goals
    go_wp2
    go_ret
    exact ⟨G, rfl, hge, hle, fin.out⟩
end Go.Proofs.Ybulkdcko
