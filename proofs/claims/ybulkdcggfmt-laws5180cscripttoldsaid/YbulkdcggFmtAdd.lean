/-
  THE WALKS of addDF and addEF.
-/
import Derived.Test.YbulkdcggFmtSel
namespace Go.Proofs.YbulkdcggFmt
open Go.RowKit

/-- the block of a file -/
def FileB (w : World) (b id typ : Nat) (par ch : Value) (st : Nat) (data : Value) (rl lim : Int) : Prop :=
  w.heap[b]? = some (.cells #[.int .u16 id, .int .u8 typ, par, ch, .int .u8 st, data, .int .i64 rl, .int .i64 lim, .int .i64 0] 44 (0, 0))
/-- a row of pointers -/
def Row (w : World) (B : Nat) (v : Value) (ps : List Nat) : Prop := w.ownsRow B 36 1 v ps.length (ps.map ptr)
theorem Row.nil (w : World) (B : Nat) : Row w B (.slice none 0 0) [] := ⟨rfl, .inl ⟨rfl, rfl⟩⟩
theorem Row.up {w W : World} {B : Nat} {v : Value} {ps : List Nat} (h : Row w B v ps) (hb : ∀ g, v.ownBlock = some g → W.heap[g]? = w.heap[g]?) : Row W B v ps := by
  refine ⟨h.1, ?_⟩
  rcases h.2 with h2 | ⟨g, cap, cur, rfl, h3, h4, h5⟩
  · exact .inl h2
  · exact .inr ⟨g, cap, cur, rfl, h3, (hb g rfl).trans h4, h5⟩
theorem Row.lt {w : World} {B : Nat} {v : Value} {ps : List Nat} (h : Row w B v ps) {g : Nat} (hg : v.ownBlock = some g) : B ≤ g ∧ g < w.heap.size := World.ownsRow.lt h g hg
theorem Row.shape {w : World} {B : Nat} {v : Value} {ps : List Nat} (h : Row w B v ps) : ∃ a n c, v = .slice a n c := by
  rcases h.2 with ⟨rfl, _⟩ | ⟨g, cap, cur, rfl, _⟩
  · exact ⟨_, _, _, rfl⟩
  · exact ⟨_, _, _, rfl⟩
theorem FileB.lt {w : World} {b id typ : Nat} {par ch : Value} {st : Nat} {data : Value} {rl lim : Int} (h : FileB w b id typ par ch st data rl lim) : b < w.heap.size := (Array.getElem?_eq_some_iff.1 h).1
theorem FileB.ne {w : World} {b id typ : Nat} {par ch : Value} {st : Nat} {data : Value} {rl lim : Int} (h : FileB w b id typ par ch st data rl lim) {B : Nat} {v : Value} {ps : List Nat} (hr : Row w B v ps) : v.ownBlock ≠ some b := by
  intro e
  rcases hr.2 with ⟨rfl, _⟩ | ⟨g, cap, cur, rfl, h3, h4, h5⟩
  · cases e
  · cases e
    rw [FileB] at h
    rw [h] at h4
    injection h4 with h4
    injection h4 with _ h6
    exact absurd h6 (by decide)

/-- what an addition to the file in block b leaves: the new file in block d, the row v' -/
structure Added (w w' : World) (B b d : Nat) (v v' : Value) (ps : List Nat) : Prop where
  d_eq : d = w.heap.size
  row : Row w' B v' (ps ++ [d])
  far : ∀ x, x < w.heap.size → x ≠ b → v.ownBlock ≠ some x → w'.heap[x]? = w.heap[x]?
  bel : ∀ M, M ≤ b → M ≤ B → M ≤ w.heap.size → Below M w w'
  size : w.heap.size < w'.heap.size

theorem add_core {w : World} {B b id typ : Nat} {par v : Value} {st : Nat} {data : Value} {rl lim : Int} {ps : List Nat} (hf : FileB w b id typ par v st data rl lim) (hr : Row w B v ps) (hB : B ≤ w.heap.size) (hs : ps.length ≤ 50)
    (id' typ' : Nat) (st' : Nat) (data' : Value) (rl' lim' : Int) (ty : TypeId) :
    ∃ v' W, (Builtin.append_ #[42, 42] ty #[v, .slice (some ⟨w.heap.size + 1, 0, none⟩) 1 1]).run Ybaf.prog ((w.alloc (.cells #[.int .u16 id', .int .u8 typ', .pointer (some ⟨b, 0, none⟩), .slice none 0 0, .int .u8 st', data', .int .i64 rl', .int .i64 lim', .int .i64 0] 44)).alloc (.cells #[.pointer (some ⟨w.heap.size, 0, none⟩)] 36)) = .ok v' W ∧
      W.cell? ⟨b, 3, none⟩ = some v ∧ W.frozen? ⟨b, 3, none⟩ = false ∧
      FileB (W.setCell ⟨b, 3, none⟩ v') w.heap.size id' typ' (.pointer (some ⟨b, 0, none⟩)) (.slice none 0 0) st' data' rl' lim' ∧
      FileB (W.setCell ⟨b, 3, none⟩ v') b id typ par v' st data rl lim ∧ Added w (W.setCell ⟨b, 3, none⟩ v') B b w.heap.size v v' ps := by
  have hbl := hf.lt
  have hne := hf.ne hr
  obtain ⟨z1, z2, z3, z4⟩ := alloc2 w (.cells #[.int .u16 id', .int .u8 typ', .pointer (some ⟨b, 0, none⟩), .slice none 0 0, .int .u8 st', data', .int .i64 rl', .int .i64 lim', .int .i64 0] 44) (.cells #[.pointer (some ⟨w.heap.size, 0, none⟩)] 36)
  generalize (w.alloc (.cells #[.int .u16 id', .int .u8 typ', .pointer (some ⟨b, 0, none⟩), .slice none 0 0, .int .u8 st', data', .int .i64 rl', .int .i64 lim', .int .i64 0] 44)).alloc (.cells #[.pointer (some ⟨w.heap.size, 0, none⟩)] 36) = W1 at *
  have r1 : Row W1 B v ps := hr.up (fun g hg => z2.block g (hr.lt hg).2)
  obtain ⟨i0, hi0, hz0, hz1, hz2⟩ := info_parts info36
  obtain ⟨v', W, hrun, h2, h3, h4⟩ := run_append_own (P := Ybaf.prog) W1 B 42 ty 36 i0 (.pointer none) 1 8 Ybaf.underlying42 hi0 hz0 hz1 hz2 rfl (by decide) v ps.length _ r1 ⟨w.heap.size + 1, 0, none⟩ 1 1 ([w.heap.size].map ptr) (by simp)
    (fun j u hu => by
      have hj := (List.getElem?_eq_some_iff.1 hu).1
      have : j = 0 := by simpa using hj
      subst this
      simp only [List.map_cons, List.map_nil, List.getElem?_cons_zero, Option.some.injEq] at hu
      subst hu
      rw [Addr.add_lit]
      simp [World.cell?, z4, ptr])
    (fun u hu => by
      obtain ⟨b, _, rfl⟩ := List.mem_map.1 hu
      rfl) (by unfold maxLen; omega) (by omega) (by omega)
  have hkeep : ∀ x, x < W1.heap.size → v.ownBlock ≠ some x → W.heap[x]? = W1.heap[x]? := fun x hx hn => h3.block x hx (fun e => hn e.symm)
  have hWb : W.heap[b]? = _ := (hkeep b (by omega) hne).trans ((z2.block b hbl).trans hf)
  have hd : v.ownBlock ≠ some w.heap.size := fun e => by have := (hr.lt e).2; omega
  have hWd : W.heap[w.heap.size]? = _ := (hkeep w.heap.size (by omega) hd).trans z3
  have hne' : v'.ownBlock ≠ some b := by
    intro e
    rcases h2.2 with ⟨rfl, _⟩ | ⟨g, cap, cur, rfl, q3, q4, q5⟩
    · cases e
    · cases e
      rw [hWb] at q4
      injection q4 with q4
      injection q4 with _ q6
      exact absurd q6 (by decide)
  refine ⟨v', W, hrun, by simp [World.cell?, hWb], by simp [World.frozen?, hWb], ?_, ?_, ⟨rfl, ?_, ?_, ?_, ?_⟩⟩
  · unfold FileB
    rw [Below.heap_setCell _ _ _ _ (by simp only; omega)]
    exact hWd
  · unfold FileB
    simp only [World.setCell, Array.getElem?_modify, hWb, if_true, Option.map_some]
    rfl
  · have h2' : Row W B v' (ps ++ [w.heap.size]) := by
      unfold Row
      rw [List.length_append, List.map_append]
      exact h2
    exact h2'.up (fun g hg => Below.heap_setCell _ _ _ _ (fun e => hne' (by rw [hg, e])))
  · intro x hx hxb hxv
    rw [Below.heap_setCell _ _ _ _ (by simpa using hxb), hkeep x (by omega) hxv]
    exact z2.block x hx
  · intro M h1 h5 h6
    exact (((z2.mono h6)).grown h3 (by omega) (fun q hq => by have := (hr.lt hq).1; omega)).trans (below_set h1)
  · rw [size_set]
    have := h3.size
    omega
set_option maxHeartbeats 3200000 in
set_option maxRecDepth 100000 in
theorem addDF_any {w : World} {B b id typ : Nat} {par v : Value} {st : Nat} {data : Value} {rl lim : Int} {ps : List Nat} (hf : FileB w b id typ par v st data rl lim) (hr : Row w B v ps) (hB : B ≤ w.heap.size) (hs : ps.length ≤ 50) (id' : Nat) :
    Calls Ybaf.prog 10 #[.pointer (some ⟨b, 0, none⟩), .int .u16 id'] w fun e w' => ∃ v', e = .returned (.pointer (some ⟨w.heap.size, 0, none⟩)) ∧ FileB w' w.heap.size id' 2 (.pointer (some ⟨b, 0, none⟩)) (.slice none 0 0) 0 (.slice none 0 0) 0 0 ∧ FileB w' b id typ par v' st data rl lim ∧ Added w w' B b w.heap.size v v' ps := by
  obtain ⟨v', W, r, c1, c2, f1, f2, ad⟩ := add_core hf hr hB hs id' 2 0 (.slice none 0 0) 0 0 42
  replace r : (Builtin.append_ #[42, 42] 42 #[v, .slice (some ⟨w.heap.size + 1, 0, none⟩) 1 1]).run Ybaf.prog ((w.alloc (.cells #[.int .u16 id', .int .u8 2, .pointer (some ⟨b, 0, none⟩), .slice none 0 0, .int .u8 0, .slice none 0 0, .int .i64 0, .int .i64 0, .int .i64 0] 44)).alloc (.cells #[.pointer (some ⟨w.heap.size, 0, none⟩)] 36)) = .ok v' W := r
  have x3 : w.cell? ⟨b, 3, none⟩ = some v := by rw [FileB] at hf; simp [World.cell?, hf]
  have hbl := hf.lt
  obtain ⟨av, nv, cv, rfl⟩ := ad.row.shape
  have F1 := hide f1
  have F2 := hide f2
  have AD := hide ad
  clear f1 f2 ad hf hr
  go_enter Ybaf.func10, Ybaf.ntmps10
  go_wp2_with (at_builtin; refine Lib.wpList_append_run _ rfl _ _ 42 42 rfl _ _ rfl rfl _ _ r ?_)
  go_ret
  exact ⟨_, rfl, F1.out, F2.out, AD.out⟩

set_option maxHeartbeats 3200000 in
set_option maxRecDepth 100000 in
theorem addEF_any {w : World} {B b id typ : Nat} {par v : Value} {st : Nat} {data : Value} {rl lim : Int} {ps : List Nat} (hf : FileB w b id typ par v st data rl lim) (hr : Row w B v ps) (hB : B ≤ w.heap.size) (hs : ps.length ≤ 50) (id' st' : Nat) (da : Option Addr) (dn dc : Nat) (rl' : Nat) :
    Calls Ybaf.prog 11 #[.pointer (some ⟨b, 0, none⟩), .int .u16 id', .int .u8 st', (.slice da dn dc), .int .i64 (rl' : Nat)] w fun e w' => ∃ v', e = .returned (.pointer (some ⟨w.heap.size, 0, none⟩)) ∧ FileB w' w.heap.size id' 4 (.pointer (some ⟨b, 0, none⟩)) (.slice none 0 0) st' (.slice da dn dc) rl' (-1) ∧ FileB w' b id typ par v' st data rl lim ∧ Added w w' B b w.heap.size v v' ps := by
  obtain ⟨v', W, r, c1, c2, f1, f2, ad⟩ := add_core hf hr hB hs id' 4 st' (.slice da dn dc) rl' (-1) 42
  replace r : (Builtin.append_ #[42, 42] 42 #[v, .slice (some ⟨w.heap.size + 1, 0, none⟩) 1 1]).run Ybaf.prog ((w.alloc (.cells #[.int .u16 id', .int .u8 4, .pointer (some ⟨b, 0, none⟩), .slice none 0 0, .int .u8 st', (.slice da dn dc), .int .i64 (rl' : Nat), .int .i64 (-1), .int .i64 0] 44)).alloc (.cells #[.pointer (some ⟨w.heap.size, 0, none⟩)] 36)) = .ok v' W := r
  have x3 : w.cell? ⟨b, 3, none⟩ = some v := by rw [FileB] at hf; simp [World.cell?, hf]
  have hbl := hf.lt
  obtain ⟨av, nv, cv, rfl⟩ := ad.row.shape
  have F1 := hide f1
  have F2 := hide f2
  have AD := hide ad
  clear f1 f2 ad hf hr
  go_enter Ybaf.func11, Ybaf.ntmps11
  go_wp2_with (at_builtin; refine Lib.wpList_append_run _ rfl _ _ 42 42 rfl _ _ rfl rfl _ _ r ?_)
  go_ret
  exact ⟨_, rfl, F1.out, F2.out, AD.out⟩
end Go.Proofs.YbulkdcggFmt
