/-
  THE WALK of the law: five loops.
-/
import Derived.Test.YbulkdceqState
import Derived.Deep.DeepCutAuto
import Derived.Deep.CutBlock
import Derived.BigQuiet
import Derived.Deep.RegionHeld3
namespace Go.Proofs.Ybulkdceq
open Go.RowKit Go.Maps

theorem L1.start (w : World) (n : Nat) (key : Nat → Nat) :
    L1 w ((w.alloc (.map #[] 0)).alloc (.cells (madeCells #[.pointer none] n) 26)) w.heap.size key n 0 (fun _ => none) (fun _ => none) := by
  have z1 : (w.alloc (.map #[] 0)).heap.size = w.heap.size + 1 := by simp
  refine ⟨⟨(mapIs_made w (w.heap.size + 2)).block (Below.heap_alloc _ _ _ (by rw [z1]; omega)), fun j hj => by omega, by omega⟩, fun h _ => rfl, ?_, by simp, ((Below.refl _ _).alloc (Nat.le_refl _) _).alloc (by rw [z1]; omega) _, rfl⟩
  have h := World.rowIs_made (w.alloc (.map #[] 0)) (.pointer none) n 26
  rw [z1] at h
  exact h.congr (fun j hj => by simp)
theorem Removed.undrew {w : World} {B RB n k : Nat} {hd nx : Nat → Option Nat} {h c : Nat} {L : List Nat} {w' : World} (r : Removed w.drew B RB n k hd nx h c L w') : Removed w B RB n k hd nx h c L w' := by
  obtain ⟨hd', nx', hs, hk, rest⟩ := r
  exact ⟨hd', nx', hs, ⟨hk.os, hk.tape, hk.output, hk.size, hk.block⟩, rest⟩
/-- the state ahead of 'remove' -/
theorem L3.mid {w wr w1 : World} {S : Nat} {key : Nat → Nat} {n k : Nat} {live : Nat → Bool} {zs : List Nat} {hd nx : Nat → Option Nat} (l : L3 w wr S key n k live zs hd nx) (d : Kept (S + 3 + n) 0 0 wr w1) (c : Nat) (v : Value) :
    St (w1.setCell ⟨S + 2 + n, c, none⟩ v) S (S + 2) n k hd nx ∧ (w1.setCell ⟨S + 2 + n, c, none⟩ v).rowIs (S + 1) 26 n (fun j => .pointer (some ⟨S + 2 + j, 0, none⟩)) ∧ Below S w (w1.setCell ⟨S + 2 + n, c, none⟩ v) := by
  have b1 : ∀ b, b < S + 2 + n → (w1.setCell ⟨S + 2 + n, c, none⟩ v).heap[b]? = wr.heap[b]? := fun b hb =>
    (Below.heap_setCell _ _ _ _ (by simp only; omega)).trans (d.block b (by omega) (by omega))
  refine ⟨⟨l.st.map.block (b1 _ (by omega)), fun j hj => ?_, by omega⟩, l.runs.of_block (b1 _ (by omega)), ?_⟩
  · obtain ⟨c', h1, h2⟩ := l.st.run j hj
    exact ⟨c', (b1 _ (by omega)).trans h1, h2⟩
  · exact l.bel.trans ⟨d.os, d.tape, d.output, by simp [World.setCell, d.size], fun i hi => b1 i (by omega)⟩
theorem Removed.cells {w : World} {B RB n k : Nat} {hd nx : Nat → Option Nat} {h c : Nat} {L : List Nat} {w' : World} (r : Removed w B RB n k hd nx h c L w') {p q : Addr} {u v : Value} (hp : p.block < B) (hq : q.block ≠ B ∧ q.block < RB) (hB : B < RB) (h1 : w.cell? p = some u) (h2 : w.cell? q = some v) :
    w'.cell? p = some u ∧ w'.cell? q = some v := by
  obtain ⟨hd', nx', hs, hk, rest⟩ := r
  exact ⟨by rw [hk.cell (by omega) (by omega)]; exact h1, by rw [hk.cell hq.1 (by omega)]; exact h2⟩
theorem wrapH (x : Nat) (h : x < 256) : IntKind.u64.wrap ((x : Int).tmod 4) = (x : Int) % 4 := by
  have e : IntKind.u64.wrap ((x : Int).tmod 4) = ((x : Int).tmod 4) % 18446744073709551616 := by simp [IntKind.wrap, IntKind.bits, IntKind.signed]
  rw [e, Int.tmod_eq_emod_of_nonneg (by omega)]
  omega
/-- how many of the first h chains are not empty -/
def cntTo (hd : Nat → Option Nat) : Nat → Nat
  | 0 => 0
  | h + 1 => cntTo hd h + if (hd h).isSome then 1 else 0
theorem cntTo_four (hd : Nat → Option Nat) : cntTo hd 4 = cnt hd := by simp [cntTo, cnt]
theorem cntTo_le (hd : Nat → Option Nat) : ∀ h, cntTo hd h ≤ h
  | 0 => Nat.le_refl _
  | h + 1 => by have := cntTo_le hd h; unfold cntTo; split <;> omega
theorem len_chainOf (key : Nat → Nat) (live : Nat → Bool) (h : Nat) : ∀ i, (chainOf key live h i).length ≤ i
  | 0 => by simp [chainOf]
  | i + 1 => by
    have := len_chainOf key live h i
    unfold chainOf
    split
    · simp; omega
    · omega
theorem chain_ok {nx : Nat → Option Nat} {o : Option Nat} {l : List Nat} (h : IsChain nx o l) : o.isSome = decide (0 < l.length) := by
  cases l with
  | nil => rw [show o = none from h]; rfl
  | cons a l => rw [h.1]; simp
theorem info26 : (Yba.prog.info? 26).map (fun i => (i.zero, i.size, i.bytes)) = some (some (.pointer none), 1, 8) := by kernel_rfl
theorem info4 : (Yba.prog.info? 4).map (fun i => (i.zero, i.size, i.bytes)) = some (some (.bool false), 1, 1) := by kernel_rfl
theorem info3 : (Yba.prog.info? 3).map (fun i => (i.zero, i.size, i.bytes)) = some (some (.int .i64 0), 1, 8) := by kernel_rfl

/-- a slice of bytes that came in: its elements -/
def Bytes (w : World) (a : Option Addr) (n : Nat) (H : Nat → Nat) : Prop :=
  0 < n → ∃ b o, a = some ⟨b, o, none⟩ ∧ b < w.heap.size ∧ ∀ i, i < n → H i < 256 ∧ w.cell? ⟨b, o + i, none⟩ = some (.int .u8 (H i : Int))

set_option maxRecDepth 100000 in
set_option maxHeartbeats 8000000 in
theorem walk (a0 : Option Addr) (n cap0 : Nat) (H : Nat → Nat) (a1 : Option Addr) (m cap1 : Nat) (Pk : Nat → Nat) (w : World) (h0 : Bytes w a0 n H) (h1 : Bytes w a1 m Pk) (hn : n ≤ 300) (hm : m ≤ 300) :
    Calls Yba.prog 3 #[.slice a0 n cap0, .slice a1 m cap1] w fun e w' => e = .returned (.bool true) ∧ Below w.heap.size w w' := by
  have g1 : decide (300 < (n : Int)) = false := by simp; omega
  have g2 : decide (300 < (m : Int)) = false := by simp; omega
  have hmk := run_make_row' (P := Yba.prog) 25 26 (.pointer none) 8 Yba.underlying25 info26 rfl .i64 .i64 n (by omega) (by omega)
  have hmm := @run_makeMap Yba.prog
  have X0 : Hid (Bytes w a0 n H) := h0
  have X1 : Hid (Bytes w a1 m Pk) := h1
  clear h0 h1
  go_enter Yba.func3, Yba.ntmps3
  go_wp2
  go_loopg [8] n (fun g s8 wr => ∃ i hd nx, i ≤ n ∧ g = n - i ∧ s8 = .int .i64 (i : Int) ∧ L1 w wr w.heap.size (fun j => H j % 4) n i hd nx)
  case atStart => exact ⟨0, _, _, Nat.zero_le _, rfl, rfl, L1.start w n _⟩
  case round =>
    obtain ⟨i, hd, nx, hi, hg, rfl, l⟩ := hrel
    by_cases hlt : i < n
    · obtain ⟨b0, o0, rfl, hb0, hc0⟩ := X0.out (by omega)
      obtain ⟨hH, hc⟩ := hc0 i hlt
      have hcw : wr.cell? ⟨b0, o0 + i, none⟩ = some (.int .u8 (H i : Int)) := by rw [l.bel.cell (by simpa using hb0)]; exact hc
      have hsz := l.size
      obtain ⟨v0, hv0⟩ : ∃ v0, wr.cell? ⟨w.heap.size + 1, i, none⟩ = some v0 := ⟨_, l.runs.cell hlt⟩
      have hrf := l.runs.frozen i
      have k1 : w.heap.size + 1 < w.heap.size + 2 + i := by omega
      have k2 : b0 < w.heap.size + 2 + i := by omega
      have k3 : b0 < w.heap.size + 1 := by omega
      clear hc0 hc
      go_wp2_with fail
      rw [show ((H i : Int) % 4) = ((H i % 4 : Nat) : Int) from by omega]
      refine (add_any (l.boxed rfl) (H i % 4) i (by omega) (by omega) (by unfold maxLen; omega)).mono ?_
      rintro e w' ⟨rfl, hs', hk'⟩
      have l' := l.step hs' hk'
      clear hs' hk' l hcw hv0 hrf hsz
      go_wp2
      go_roundg (n - (i + 1))
      case measure => omega
      case rel => exact ⟨i + 1, _, _, by omega, rfl, by go_num, l'⟩
    · obtain rfl : n = i := by omega
      have hmk2 := run_make_row' (P := Yba.prog) 43 4 (.bool false) 1 Yba.underlying43 info4 rfl .i64 .i64 n (by omega) (by omega)
      have hmk3 := run_make_row' (P := Yba.prog) 44 3 (.int .i64 0) 8 Yba.underlying44 info3 rfl .i64 .i64 n (by omega) (by omega)
      have hsz := l.size
      have l2 := l.made
      have k1 : w.heap.size + 2 + n + 1 = w.heap.size + 3 + n := by omega
      clear hmk hmm l hlt hi hg
      go_wp2
      go_loopg [12] n (fun g s12 wr => ∃ t, t ≤ n ∧ g = n - t ∧ s12 = .int .i64 (t : Int) ∧ L2 w wr w.heap.size (fun j => H j % 4) n t hd nx)
      case atStart => exact ⟨0, Nat.zero_le _, rfl, rfl, l2⟩
      case round =>
        clear hsz l2 hmk2 hmk3 k1
        obtain ⟨t, ht, hg, rfl, l⟩ := hrel
        by_cases hlt : t < n
        · have c1 := l.lv.cell hlt
          have c2 := l.rs.cell hlt
          have f1 := l.lv.frozen t
          have f2 := l.rs.frozen t
          have k1 : ¬ (w.heap.size + 3 + n = w.heap.size + 2 + n) := by omega
          have l' := l.step
          clear l
          go_wp2
          go_roundg (n - (t + 1))
          case measure => omega
          case rel => exact ⟨t + 1, by omega, rfl, by go_num, l'⟩
        · obtain rfl : n = t := by omega
          have l3 := l.done
          clear l hlt ht hg
          go_upto_block 4 with fail
          go_cut [11] from 37 to 121 (fun _ wx => ∃ k live zs hd nx, L3 w wx w.heap.size (fun j => H j % 4) n k live zs hd nx)
          case first =>
            go_wp2_with fail
            go_loopg [11, 77] m (fun g s11 s77 wr => ∃ t live zs hd nx, t ≤ m ∧ g = m - t ∧ s77 = .int .i64 (t : Int) ∧ s11 = .slice (some ⟨w.heap.size + 3 + n, 0, none⟩) zs.length n ∧ L3 w wr w.heap.size (fun j => H j % 4) n (n + t) live zs hd nx)
            case atStart => exact ⟨0, _, List.range n, _, _, Nat.zero_le _, rfl, rfl, by simp, l3⟩
            case round =>
              clear l3
              obtain ⟨t, live, zs, hd, nx, ht, hg, rfl, rfl, l⟩ := hrel
              by_cases hlt : t < m
              · obtain ⟨b1, o1, rfl, hb1, hc1⟩ := X1.out (by omega)
                obtain ⟨hP, hc⟩ := hc1 t hlt
                have hcw : wr.cell? ⟨b1, o1 + t, none⟩ = some (.int .u8 (Pk t : Int)) := by rw [l.bel.cell (by simpa using hb1)]; exact hc
                by_cases hz : zs.length = 0
                · have hz0 : ((zs.length : Int) == 0) = true := by simp [hz]
                  have A : Hid (zs.length = 0) := hz
                  clear hz
                  go_wp2_with fail
                  go_meet
                  case rel => exact ⟨_, _, _, _, _, l⟩
                · have hz0 : ((zs.length : Int) == 0) = false := by simp [hz]
                  clear hc1 hc
                  go_upto_region 24 with fail
                  rw [show ((Pk t : Int) % (zs.length : Int)) = ((Pk t % zs.length : Nat) : Int) from by omega]
                  have hj : Pk t % zs.length < zs.length := Nat.mod_lt _ (by omega)
                  generalize Pk t % zs.length = j at hj ⊢
                  obtain ⟨c, hcz⟩ : ∃ c, zs[j]? = some c := ⟨_, List.getElem?_eq_getElem hj⟩
                  have hcm := l.zmem c (List.mem_of_getElem? hcz)
                  have hzn := l.zlen
                  have hrc : wr.cell? ⟨w.heap.size + 3 + n, j, none⟩ = some (.int .i64 (c : Int)) := by rw [l.rs.cell (by omega)]; simp [List.getD, hcz]
                  have Y : Hid (zs[j]? = some c ∧ live c = true) := ⟨hcz, hcm.2⟩
                  have hcn := hcm.1
                  clear hcz hcm
                  obtain ⟨b0, o0, rfl, hb0, hc0⟩ := X0.out (by omega)
                  go_wp2_with fail
                  refine (delete_any l hn hj).mono ?_
                  rintro e w1 ⟨rfl, hk1, hr1⟩
                  obtain ⟨hH, hc⟩ := hc0 c hcn
                  have q1 : w1.cell? ⟨w.heap.size + 2 + n, c, none⟩ = some (.bool (live c)) := by rw [hk1.cell (by simp only; omega) (by omega)]; exact l.lv.cell hcn
                  have q2 : w1.frozen? ⟨w.heap.size + 2 + n, c, none⟩ = false := by rw [World.frozen?_of_block (w := wr) (hk1.block _ (by simp only; omega) (by omega))]; exact l.lv.frozen c
                  clear hc0
                  go_upto_region 27 with fail
                  obtain ⟨hs2, hr2, hb2⟩ := l.mid hk1 c (.bool false)
                  have q3 : (w1.setCell ⟨w.heap.size + 2 + n, c, none⟩ (.bool false)).cell? ⟨b0, o0 + c, none⟩ = some (.int .u8 (H c : Int)) := by rw [hb2.cell (by simpa using hb0)]; exact hc
                  have q4 := hr2.cell hcn
                  have HR : Hid (Calls Yba.prog 6 #[.map (some w.heap.size), .int .u64 ((H c : Int) % 4), .pointer (some ⟨w.heap.size + 2 + c, 0, none⟩)] (w1.setCell ⟨w.heap.size + 2 + n, c, none⟩ (.bool false)).drew fun e w' =>
                      e = .returned (.tuple #[]) ∧ Removed (w1.setCell ⟨w.heap.size + 2 + n, c, none⟩ (.bool false)) w.heap.size (w.heap.size + 2) n (n + t) hd nx (H c % 4) c (chainOf (fun j => H j % 4) live (H c % 4) n) w') := by
                    rw [show ((H c : Int) % 4) = ((H c % 4 : Nat) : Int) from by omega]
                    refine (remove_any hs2.drew (H c % 4) c (by omega) (by unfold maxLen; omega) (chainOf (fun j => H j % 4) live (H c % 4) n) (l.chain _ (by omega)) (nodup_chainOf _ _ _ _) (fun a ha => (mem_chainOf.1 ha).1) (mem_chainOf.2 ⟨hcn, Y.out.2, rfl⟩)).mono ?_
                    rintro e w' ⟨rfl, hr⟩
                    exact ⟨rfl, hr.undrew⟩
                  have Z : Hid (∀ w2, Removed (w1.setCell ⟨w.heap.size + 2 + n, c, none⟩ (.bool false)) w.heap.size (w.heap.size + 2) n (n + t) hd nx (H c % 4) c (chainOf (fun j => H j % 4) live (H c % 4) n) w2 → ∃ hd' nx', L3 w w2 w.heap.size (fun j => H j % 4) n (n + t + 1) (upd live c false) (zs.eraseIdx j) hd' nx' ∧ nx' c = none) :=
                    fun w2 r => l.step hj Y.out.1 (Nat.mod_lt _ (by omega)) hk1 hr1 r
                  clear hs2 hr2 hb2 q1 q2 hk1 hr1 l hcw hrc hz0 hc
                  generalize w1.setCell ⟨w.heap.size + 2 + n, c, none⟩ (.bool false) = W2 at *
                  go_cut [11] from 78 to 121 (fun s wx => s = .slice (some ⟨w.heap.size + 3 + n, 0, none⟩) (zs.length - 1) n ∧ Removed W2 w.heap.size (w.heap.size + 2) n (n + t) hd nx (H c % 4) c (chainOf (fun j => H j % 4) live (H c % 4) n) wx)
                  case first =>
                    have ci0 : (0 : Int) ≤ (c : Int) := by omega
                    have ci1 : (c : Int) < (n : Int) := by omega
                    go_region_held3 (fun w' => w'.cell? ⟨b0, o0 + c, none⟩ = some (.int .u8 (H c : Int)) ∧ w'.cell? ⟨w.heap.size + 1, c, none⟩ = some (.pointer (some ⟨w.heap.size + 2 + c, 0, none⟩))) (first | (exact ⟨q3, q4⟩) | (exact Removed.cells (by assumption) (by simpa using hb0) (by simp only; omega) (by omega) q3 q4))
                      (first | (go_at_call 6; rw [wrapH _ hH]; refine HR.out.mono ?_; rintro e w' ⟨rfl, hr⟩))
                    go_wp2_with fail
                    go_meet
                    case rel => exact ⟨rfl, by assumption⟩
                  case rest =>
                    obtain ⟨rfl, hr⟩ := hcut
                    obtain ⟨hd', nx', l', hn'⟩ := Z.out wc hr
                    have r1 := l'.runs.cell hcn
                    have r2 := l'.st.next hcn
                    rw [hn', adr_none] at r2
                    have hle : (zs.eraseIdx j).length = zs.length - 1 := List.length_eraseIdx_of_lt hj
                    have V : Hid ((zs.eraseIdx j).length = zs.length - 1) := hle
                    have U : Hid (L3 w wc w.heap.size (fun j => H j % 4) n (n + (t + 1)) (upd live c false) (zs.eraseIdx j) hd' nx') := l'
                    clear hle hn' l' hr Z HR q3 q4 Y
                    go_wp2
                    go_roundg (m - (t + 1))
                    case measure => omega
                    case rel => exact ⟨t + 1, _, zs.eraseIdx j, _, _, by omega, rfl, by go_num, by rw [V.out], U⟩
              · go_wp2_with fail
                go_meet
                case rel => exact ⟨_, _, _, _, _, l⟩
          case rest =>
            obtain ⟨k, live, zs, hd, nx, l⟩ := hcut
            clear l3
            go_wp2_with fail
            go_loopg [17, 18] 4 (fun g s17 s18 wr => wr = wc ∧ ∃ h, h ≤ 4 ∧ g = 4 - h ∧ s18 = .int .i64 (h : Int) ∧ s17 = .int .i64 (cntTo hd h : Int))
            case atStart => exact ⟨rfl, 0, by omega, rfl, rfl, rfl⟩
            case round =>
              obtain ⟨rfl, h, hh, hg, rfl, rfl⟩ := hrel
              have hcl := cntTo_le hd h
              by_cases h4 : h < 4
              · have hl1 := l.st.map.lookup h4
                have hl2 := l.st.map.look_ok h4
                go_wp2_with fail
                go_loopg [19, 22, 23] n (fun g s19 s22 s23 wx => wx = wr ∧ ∃ (i : Nat) (o : Option Nat) (c : Nat), i ≤ n ∧ g = i ∧ s23 = .int .i64 ((i : Int) - 1) ∧ s19 = .pointer (adr (w.heap.size + 2) o) ∧ s22 = .int .i64 (c : Int) ∧ c ≤ n ∧ Hid (IsChain nx o (chainOf (fun j => H j % 4) live h i) ∧ c + (chainOf (fun j => H j % 4) live h i).length = (chainOf (fun j => H j % 4) live h n).length))
                case atStart => exact ⟨rfl, n, hd h, 0, Nat.le_refl _, rfl, rfl, rfl, rfl, Nat.zero_le _, l.chain h h4, by omega⟩
                case round =>
                  clear hl1 hl2
                  obtain ⟨rfl, i, o, c, hi, hgi, rfl, rfl, rfl, hcn, A⟩ := hrel
                  by_cases hi0 : i = 0
                  · subst hi0
                    have ho : o = none := A.out.1
                    subst ho
                    have hlen : c = (chainOf (fun j => H j % 4) live h n).length := by have := A.out.2; simpa [chainOf] using this
                    have hok := chain_ok (l.chain h h4)
                    rw [adr_none]
                    have e1 : cntTo hd (h + 1) = cntTo hd h + if (hd h).isSome then 1 else 0 := rfl
                    by_cases h0 : 0 < c
                    · have hok1 : (hd h).isSome = true := by rw [hok]; simpa [← hlen] using h0
                      have hc1 : decide ((0 : Int) < (c : Int)) = true := by simpa using h0
                      rw [hok1, if_pos rfl] at e1
                      have E : Hid (cntTo hd (h + 1) = cntTo hd h + 1) := e1
                      clear hok hlen e1 A
                      go_wp2
                      go_roundg (4 - (h + 1))
                      case measure => omega
                      case rel => exact ⟨rfl, h + 1, by omega, rfl, by go_num, by rw [E.out]; go_num⟩
                    · have hok1 : (hd h).isSome = false := by rw [hok]; simpa [← hlen] using h0
                      have hc1 : decide ((0 : Int) < (c : Int)) = false := by simpa using h0
                      rw [hok1, if_neg (by simp)] at e1
                      have E : Hid (cntTo hd (h + 1) = cntTo hd h) := e1
                      clear hok hlen e1 A
                      go_wp2
                      go_roundg (4 - (h + 1))
                      case measure => omega
                      case rel => exact ⟨rfl, h + 1, by omega, rfl, by go_num, by rw [E.out]⟩
                  · obtain ⟨i', rfl⟩ : ∃ i', i = i' + 1 := ⟨i - 1, by omega⟩
                    rw [show (((i' + 1 : Nat) : Int) - 1) = (i' : Int) from by omega]
                    obtain ⟨b0, o0, rfl, hb0, hc0⟩ := X0.out (by omega)
                    obtain ⟨hH, hc⟩ := hc0 i' (by omega)
                    have hcw : wr.cell? ⟨b0, o0 + i', none⟩ = some (.int .u8 (H i' : Int)) := by rw [l.bel.cell (by simpa using hb0)]; exact hc
                    have hlv := l.lv.cell (show i' < n by omega)
                    have hlc := len_chainOf (fun j => H j % 4) live h n
                    clear hc0 hc
                    by_cases hlive : live i' = true
                    · by_cases hkey : H i' % 4 = h
                      · have hch : chainOf (fun j => H j % 4) live h (i' + 1) = i' :: chainOf (fun j => H j % 4) live h i' := by rw [chainOf, if_pos ⟨hlive, hkey⟩]
                        have B := A.out
                        rw [hch] at B
                        obtain ⟨⟨ho, hB1⟩, hB2⟩ := B
                        subst ho
                        rw [adr_some]
                        rw [hlive] at hlv
                        have hru := l.runs.cell (show i' < n by omega)
                        have hnx := l.st.next (show i' < n by omega)
                        have hq := neq_same ⟨w.heap.size + 2 + i', 0, none⟩
                        have hkb : (((H i' : Int) % 4) != (h : Int)) = false := by simp; omega
                        have hcn' : c + 1 ≤ n := by simp at hB2; omega
                        have A' : Hid (IsChain nx (nx i') (chainOf (fun j => H j % 4) live h i') ∧ (c + 1) + (chainOf (fun j => H j % 4) live h i').length = (chainOf (fun j => H j % 4) live h n).length) := ⟨hB1, by simp at hB2; omega⟩
                        clear hB1 hB2 hch A hkey hlive hlc
                        go_wp2
                        go_roundg i'
                        case measure => omega
                        case rel => exact ⟨rfl, i', nx i', c + 1, by omega, rfl, by go_num, rfl, by go_num, hcn', A'⟩
                      · have hch : chainOf (fun j => H j % 4) live h (i' + 1) = chainOf (fun j => H j % 4) live h i' := by rw [chainOf, if_neg (fun q => hkey q.2)]
                        have A' : Hid (IsChain nx o (chainOf (fun j => H j % 4) live h i') ∧ c + (chainOf (fun j => H j % 4) live h i').length = (chainOf (fun j => H j % 4) live h n).length) := by have B := A.out; rw [hch] at B; exact B
                        have hkb : (((H i' : Int) % 4) != (h : Int)) = true := by simp; omega
                        rw [hlive] at hlv
                        clear hch A hkey hlive hlc
                        go_wp2
                        go_roundg i'
                        case measure => omega
                        case rel => exact ⟨rfl, i', o, c, by omega, rfl, by go_num, rfl, rfl, hcn, A'⟩
                    · have hch : chainOf (fun j => H j % 4) live h (i' + 1) = chainOf (fun j => H j % 4) live h i' := by rw [chainOf, if_neg (fun q => hlive q.1)]
                      have A' : Hid (IsChain nx o (chainOf (fun j => H j % 4) live h i') ∧ c + (chainOf (fun j => H j % 4) live h i').length = (chainOf (fun j => H j % 4) live h n).length) := by have B := A.out; rw [hch] at B; exact B
                      have hl0 : live i' = false := by simpa using hlive
                      rw [hl0] at hlv
                      clear hch A hlive hlc hl0
                      go_wp2
                      go_roundg i'
                      case measure => omega
                      case rel => exact ⟨rfl, i', o, c, by omega, rfl, by go_num, rfl, rfl, hcn, A'⟩
              · obtain rfl : h = 4 := by omega
                have hlen := l.st.map.len 3
                have hc4 := cntTo_four hd
                rw [← hc4] at hlen
                clear hc4
                have hbel := l.bel
                go_wp2_with fail
                go_ret
                exact ⟨rfl, hbel⟩

set_option maxRecDepth 100000 in
set_option maxHeartbeats 800000 in
theorem walk_long (a0 : Option Addr) (n cap0 : Nat) (a1 : Option Addr) (m cap1 : Nat) (w : World) (h : 300 < n ∨ 300 < m) :
    Calls Yba.prog 3 #[.slice a0 n cap0, .slice a1 m cap1] w fun e w' => e = .returned (.bool true) ∧ Below w.heap.size w w' := by
  by_cases h1 : 300 < n
  · have g1 : decide (300 < (n : Int)) = true := by simp; omega
    go_enter Yba.func3, Yba.ntmps3
    go_wp2
    go_ret
    exact ⟨rfl, Below.refl _ _⟩
  · have g1 : decide (300 < (n : Int)) = false := by simp; omega
    have g2 : decide (300 < (m : Int)) = true := by simp; omega
    go_enter Yba.func3, Yba.ntmps3
    go_wp2
    go_ret
    exact ⟨rfl, Below.refl _ _⟩
end Go.Proofs.Ybulkdceq
