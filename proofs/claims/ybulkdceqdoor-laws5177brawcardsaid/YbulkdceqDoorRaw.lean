/-
  THE WALK of LawS5177BRaw.
-/
import Derived.Test.YbulkdceqDoorClos
namespace Go.Proofs.YbulkdceqDoor
open Go.RowKit

theorem store_func (f : Fn) (xs ys : Array Value) (a : Addr) (m : Mode) (w : World) : (store a (.func f xs ys) m).run Ybad.prog w = stored Ybad.prog w a (.func f xs ys) m := run_store Ybad.prog w a _ m rfl
attribute [local go_sem] store_func
/-- bytes.Clone of an argument -/
theorem clone_any {w W : World} {a : Option Addr} {c : Nat} {l : List UInt8} (h : ArgIs w w.heap.size (.slice a l.length c) l) (b : Below w.heap.size w W) (hl : l.length ≤ 4096) :
    Calls Ybad.prog 10 #[.slice a l.length c] W fun e w' => ∃ v, e = .returned v ∧ SliceIs w' w'.heap.size v l ∧ Below W.heap.size W w' := by
  have h' := h.up (W := W) (fun b' hb => b.block b' hb)
  rcases h' with ⟨h1, rfl⟩ | ⟨x, c', h1, h2⟩
  · obtain ⟨rfl, _, rfl⟩ : a = none ∧ True ∧ c = 0 := by simpa using h1
    refine (Ybad.bytes_Clone_nil 0 0 W).mono ?_
    rintro e w' ⟨rfl, rfl⟩
    exact ⟨_, rfl, ⟨none, 0, rfl, Nat.le_refl _, by unfold maxLen; omega, fun h => absurd rfl h⟩, Below.refl _ _⟩
  · obtain ⟨rfl, _⟩ : a = some x ∧ c = c' := by simpa using h1
    refine (Ybad.bytes_Clone_at x l.length c (nums l) W (nums_length l) (by omega) (fun i hi => ?_)).mono ?_
    · obtain ⟨g, o, rfl, _, hc⟩ := h2 (fun e => by subst e; simp at hi)
      rw [Addr.add_lit, hc i hi]
      simp [nums, List.getD, hi]
    · rintro e w' ⟨v, rfl, hown, _, hb⟩
      refine ⟨v, rfl, ?_, hb⟩
      rcases hown.2 with ⟨rfl, h0⟩ | ⟨g, cap, cur, rfl, hbg, hg, hnc, hcm, hcs, htake⟩
      · have : l = [] := List.length_eq_zero_iff.1 h0
        subst this
        exact ⟨none, 0, rfl, Nat.le_refl _, by unfold maxLen; omega, fun h => absurd rfl h⟩
      · refine ⟨_, cap, rfl, hnc, hcm, fun _ => ⟨g, 0, rfl, (Array.getElem?_eq_some_iff.1 hg).1, fun j hj => ?_⟩⟩
        have hc := hown.cellAt j (by omega)
        rw [Nat.zero_add, hc]
        simp [nums, hj]

theorem infos : ∃ i j, Ybad.prog.info? 49 = some i ∧ i.comparable = true ∧ Ybad.prog.info? 69 = some j := by
  have h : (Ybad.prog.info? 49).any (fun i => i.comparable) = true := by kernel_rfl
  have h' : (Ybad.prog.info? 69).isSome = true := by kernel_rfl
  obtain ⟨j, hj⟩ := Option.isSome_iff_exists.1 h'
  cases hx : Ybad.prog.info? 49 with
  | none => rw [hx] at h; simp at h
  | some i => rw [hx] at h; exact ⟨i, j, rfl, by simpa using h, hj⟩
/-- 'err != errFrame' where it is that very pointer -/
theorem neq_err (a : Addr) (w : World) : (binOp .neq 30 (.iface 49 (.pointer (some a))) (.iface 49 (.pointer (some a)))).run Ybad.prog w = .ok (.bool false) w := by
  obtain ⟨i, j, hi, hc, hj⟩ := infos
  simp only [binOp]
  simp [Op.equal, Op.maxDepth, run_equalIn_iface_ptr_same w 9998 a Ybad.underlying30 Ybad.underlying49 hi hc hj]
attribute [local go_sem] neq_err
theorem SliceIs.more {w : World} {D : Nat} {v : Value} {l : List UInt8} (d : SliceIs w D v l) (q : Nat) : SliceIs (w.drewN q) D v l := d.up (fun _ _ => rfl)
theorem below_q {S : Nat} {w W : World} (h : Below S w W) (q : Nat) : Below S w (W.drewN q) := ⟨h.os, h.tape, h.output, h.size, h.block⟩
def CM (f : Nat) (l : List UInt8) (er : Bool) (v : Value) (l' : List UInt8) (er' : Bool) : Prop :=
  ∀ (W : World) (R K : Nat), RS W R K l er → Calls Ybad.prog f #[.pointer (some ⟨K, 0, none⟩), .pointer (some ⟨R, 0, none⟩)] W fun e w' => e = .returned v ∧ RS w' R K l' er' ∧ Turn2 R K W w'
def CK (l : List UInt8) (er : Bool) (k : List UInt8) (l' : List UInt8) (er' : Bool) : Prop :=
  ∀ (W : World) (R K U : Nat), RS W R K l er → W.cell? ⟨U, 0, none⟩ = some (.func (.func 11) #[] #[.pointer (some ⟨K, 0, none⟩), .pointer (some ⟨R, 0, none⟩)]) → Calls Ybad.prog 14 #[.pointer (some ⟨U, 0, none⟩), .pointer (some ⟨K, 0, none⟩), .pointer (some ⟨R, 0, none⟩)] W fun e w' => ∃ v, e = .returned v ∧ KeyIs w' R v k ∧ RS w' R K l' er' ∧ Turn2 R K W w'
/-- the closures' state beside the decoder's; D the decoder's block, D + 1 the captured 'ok', D + 2 the captured 'uv', R the captured 'rest' -/
structure Rx (w wc W : World) (D R : Nat) (ev : Value) (l0 : List UInt8) (er0 : Bool) (l : List UInt8) (er : Bool) : Prop where
  rs : RS W R (D + 1) l er
  fn : W.cell? ⟨D + 2, 0, none⟩ = some (.func (.func 11) #[] #[.pointer (some ⟨D + 1, 0, none⟩), .pointer (some ⟨R, 0, none⟩)])
  dec : DecIs W D ev l0 er0
  glob : W.cell? ⟨0, 0, none⟩ = some ev
  size : W.heap.size = D + 3
  bel : Below w.heap.size w W
  low : ∀ b, b < R → W.heap[b]? = wc.heap[b]?
  lt : R < D
  base : w.heap.size ≤ R
  pos : 0 < w.heap.size
theorem slice_form {w : World} {D : Nat} {v : Value} {l : List UInt8} (h : SliceIs w D v l) : ∃ a n c, v = .slice a n c := by
  obtain ⟨a, c, rfl, _⟩ := h
  exact ⟨_, _, _, rfl⟩
theorem DecIs.turn2 {W W' : World} {D R K : Nat} {ev : Value} {l0 l : List UInt8} {er0 er : Bool} (d : DecIs W D ev l0 er0) (h : RS W R K l er) (t : Turn2 R K W W') (hD : D ≠ R) (hK : D < K) : DecIs W' D ev l0 er0 := by
  obtain ⟨sv, h1, a, c, rfl, h2, h3, h4⟩ := d
  refine ⟨_, (t.block D hD (by omega)).trans h1, a, c, rfl, h2, h3, fun hl => ?_⟩
  obtain ⟨g, o, rfl, hg, hc⟩ := h4 hl
  refine ⟨g, o, rfl, hg, fun j hj => ?_⟩
  have hne : g ≠ R := by
    rintro rfl
    obtain ⟨sv, r1, r2⟩ := h.rest
    obtain ⟨x, y, z, rfl⟩ := slice_form r2
    have := hc j hj
    simp only [World.cell?, r1] at this
    cases hoj : o + j with
    | zero => rw [hoj] at this; simp at this
    | succ q => rw [hoj] at this; simp at this
  rw [World.cell?_of_block (w := W) (t.block g hne (by omega))]
  exact hc j hj
theorem Rx.call {w wc W W' : World} {D R : Nat} {ev : Value} {l0 l l' : List UInt8} {er0 er er' : Bool} (x : Rx w wc W D R ev l0 er0 l er) (h : RS W' R (D + 1) l' er') (t : Turn2 R (D + 1) W W') : Rx w wc W' D R ev l0 er0 l' er' := by
  have h1 := x.lt
  have h2 := x.base
  have h3 := x.pos
  refine ⟨h, ?_, x.dec.turn2 x.rs t (by omega) (by omega), ?_, by rw [t.size]; exact x.size, x.bel.trans ⟨t.os, t.tape, t.output, by rw [t.size]; exact Nat.le_refl _, fun b hb => t.block b (by omega) (by omega)⟩, fun b hb => (t.block b (by omega) (by omega)).trans (x.low b hb), h1, h2, h3⟩
  · rw [World.cell?_of_block (w := W) (t.block (D + 2) (by omega) (by omega))]
    exact x.fn
  · rw [World.cell?_of_block (w := W) (t.block 0 (by omega) (by omega))]
    exact x.glob
theorem Rx.start {w wc : World} {D R : Nat} {ev : Value} {l : List UInt8} {er : Bool} {sv : Value} (d : DecIs wc D ev l er) (hz : wc.heap.size = D + 1) (hR : wc.heap[R]? = some (.cells #[sv] 23 (0, 0))) (hs : SliceIs wc R sv l) (hg : wc.cell? ⟨0, 0, none⟩ = some ev) (hb : Below w.heap.size w wc) (hlt : R < D) (hbase : w.heap.size ≤ R) (hpos : 0 < w.heap.size) :
    Rx w wc ((wc.alloc (.cells #[.bool (!er)] 4)).alloc (.cells #[.func (.func 11) #[] #[.pointer (some ⟨D + 1, 0, none⟩), .pointer (some ⟨R, 0, none⟩)]] 43)) D R ev l er l er := by
  have z1 : (wc.alloc (.cells #[.bool (!er)] 4)).heap.size = D + 2 := by simp [hz]
  have hblk : ∀ b, b < D + 1 → ((wc.alloc (.cells #[.bool (!er)] 4)).alloc (.cells #[.func (.func 11) #[] #[.pointer (some ⟨D + 1, 0, none⟩), .pointer (some ⟨R, 0, none⟩)]] 43)).heap[b]? = wc.heap[b]? := fun b hb => by
    rw [Below.heap_alloc _ _ _ (by rw [z1]; omega), Below.heap_alloc _ _ _ (by rw [hz]; omega)]
  refine ⟨⟨⟨sv, (hblk R (by omega)).trans hR, hs.up (fun b h => hblk b (by omega))⟩, ?_, by omega⟩, ?_, d.up (fun b h => hblk b (by omega)), ?_, by simp [hz], (hb.alloc hb.size _).alloc (by rw [z1]; omega) _, fun b h => hblk b (by omega), hlt, hbase, hpos⟩
  · rw [Below.heap_alloc _ _ _ (by rw [z1]; omega)]
    have := (MapKept.heap_alloc wc (.cells #[.bool (!er)] 4)).1
    rwa [hz] at this
  · have := (MapKept.heap_alloc (wc.alloc (.cells #[.bool (!er)] 4)) (.cells #[.func (.func 11) #[] #[.pointer (some ⟨D + 1, 0, none⟩), .pointer (some ⟨R, 0, none⟩)]] 43)).1
    rw [z1] at this
    simp [World.cell?, this]
  · rw [World.cell?_of_block (w := wc) (hblk 0 (by omega))]
    exact hg

set_option maxHeartbeats 8000000 in
set_option maxRecDepth 100000 in
theorem raw (a : Option Addr) (c : Nat) (l : List UInt8) (pre : Bool) (ad : Addr) (w : World)
    (hl : ArgIs w w.heap.size (.slice a l.length c) l) (ll : l.length ≤ 4096)
    (hg : w.cell? ⟨0, 0, none⟩ = some (.iface 49 (.pointer (some ad)))) (hpos : 0 < w.heap.size) :
    Calls Ybad.prog 4 #[.slice a l.length c, .bool pre] w fun e w' => e = .returned (.bool true) ∧ Below w.heap.size w w' := by
  have g1 : decide (4096 < (l.length : Int)) = false := by simp; omega
  have HL : Hid (ArgIs w w.heap.size (.slice a l.length c) l) := hl
  have HG : Hid (w.cell? ⟨0, 0, none⟩ = some (.iface 49 (.pointer (some ad)))) := hg
  clear hl hg
  obtain ⟨s, l1, e1, q1⟩ : ∃ s l1 e1, uv l pre = (s, l1, e1) := ⟨_, _, _, rfl⟩
  obtain ⟨n, l2, e2, q2⟩ : ∃ n l2 e2, uv l1 e1 = (n, l2, e2) := ⟨_, _, _, rfl⟩
  obtain ⟨o, l3, e3, q3⟩ : ∃ o l3 e3, byt l2 e2 = (o, l3, e3) := ⟨_, _, _, rfl⟩
  obtain ⟨k, l4, e4, q4⟩ : ∃ k l4 e4, bts l3 e3 = (k, l4, e4) := ⟨_, _, _, rfl⟩
  obtain ⟨v, l5, e5, q5⟩ : ∃ v l5 e5, uv l4 e4 = (v, l5, e5) := ⟨_, _, _, rfl⟩
  obtain ⟨y, l6, e6, q6⟩ : ∃ y l6 e6, bts l5 e5 = (y, l6, e6) := ⟨_, _, _, rfl⟩
  have hcmd : Hid (cmd l pre = ⟨s, n, o, k, v, y, l6, e6 || !decide (o < 5)⟩) := by
    show cmd l pre = _
    simp only [cmd, q1, q2, q3, q4, q5, q6]
  have ho : o < 256 := by have := byt_lt l2 e2; rw [q3] at this; exact this
  have n1 : l1.length ≤ l.length := by have := uv_len l pre; rw [q1] at this; exact this
  have n2 : l2.length ≤ l1.length := by have := uv_len l1 e1; rw [q2] at this; exact this
  have n3 : l3.length ≤ l2.length := by have := byt_len l2 e2; rw [q3] at this; exact this
  have n4 : l4.length ≤ l3.length := by have := bts_len l3 e3; rw [q4] at this; exact this
  have n5 : l5.length ≤ l4.length := by have := uv_len l4 e4; rw [q5] at this; exact this
  have M1 : CM 11 l pre (.int .u64 s) l1 e1 := fun W R K h => by have := uvc_any h; rw [q1] at this; exact this
  have M2 : CM 11 l1 e1 (.int .u64 n) l2 e2 := fun W R K h => by have := uvc_any h; rw [q2] at this; exact this
  have M3 : CM 13 l2 e2 (.int .u8 o) l3 e3 := fun W R K h => by have := byc_any h; rw [q3] at this; exact this
  have M4 : CK l3 e3 k l4 e4 := fun W R K U h hu => by have := bsc_any h hu (by omega); rw [q4] at this; exact this
  have M5 : CM 11 l4 e4 (.int .u64 v) l5 e5 := fun W R K h => by have := uvc_any h; rw [q5] at this; exact this
  have M6 : CK l5 e5 y l6 e6 := fun W R K U h hu => by have := bsc_any h hu (by omega); rw [q6] at this; exact this
  clear q1 q2 q3 q4 q5 q6
  go_enter Ybad.func4, Ybad.ntmps4
  go_wp2_with fail
  refine (clone_any HL.out (Below.refl _ _) ll).mono ?_
  rintro e w1 ⟨v1, rfl, s1, b1⟩
  have s1' := s1
  obtain ⟨a1, c1, rfl, _⟩ := s1'
  have z1 := b1.size
  have b1' := b1.alloc b1.size (.cells #[.slice a1 l.length c1] 23)
  go_wp2_with fail
  refine (clone_any HL.out b1' ll).mono ?_
  rintro e w2 ⟨v2, rfl, s2, b2⟩
  have s2' := s2
  obtain ⟨a2, c2, rfl, _⟩ := s2'
  have z2 := b2.size
  have hd : ∀ er : Bool, DecIs (w2.alloc (.cells #[.slice a2 l.length c2, if er then .iface 49 (.pointer (some ad)) else .nilIface] 32)) w2.heap.size (.iface 49 (.pointer (some ad))) l er :=
    fun er => ⟨_, (MapKept.heap_alloc w2 _).1, s2.up (fun b hb => Below.heap_alloc _ _ _ hb)⟩
  have hz1 : (w1.alloc (.cells #[.slice a1 l.length c1] 23)).heap.size = w1.heap.size + 1 := by simp
  rw [hz1] at z2
  have hblk : ∀ b, b ≤ w1.heap.size → w2.heap[b]? = (w1.alloc (.cells #[.slice a1 l.length c1] 23)).heap[b]? := fun b hb => b2.block b (by rw [hz1]; omega)
  have hR : w2.heap[w1.heap.size]? = some (.cells #[.slice a1 l.length c1] 23 (0, 0)) := (hblk _ (Nat.le_refl _)).trans (MapKept.heap_alloc w1 _).1
  have hS : SliceIs w2 w1.heap.size (.slice a1 l.length c1) l := s1.up (fun b hb => (hblk b (by omega)).trans (Below.heap_alloc _ _ _ hb))
  have hB : Below w.heap.size w w2 := b1'.trans (b2.mono (by rw [hz1]; omega))
  clear s1 s2 b1 b1' b2 hblk hz1
  go_upto_if 28 with fail
  go_cut [28] from 19 to 32 (fun _ wx => DecIs wx w2.heap.size (.iface 49 (.pointer (some ad))) l pre ∧ wx.heap.size = w2.heap.size + 1 ∧ wx.os = w2.os ∧ wx.tape = w2.tape ∧ wx.output = w2.output ∧ ∀ b, b < w2.heap.size → wx.heap[b]? = w2.heap[b]?)
  case first =>
    have h0 : w2.cell? ⟨0, 0, none⟩ = some (.iface 49 (.pointer (some ad))) := by rw [hB.cell (by simpa using hpos)]; exact HG.out
    have h1 : 0 < w2.heap.size := by omega
    cases pre
    · go_wp2_with fail
      go_meet
      case rel => exact ⟨hd false, by simp, rfl, rfl, rfl, fun b hb => Below.heap_alloc _ _ _ hb⟩
    · go_wp2_with fail
      go_meet
      case rel => exact ⟨hd true, by simp, rfl, rfl, rfl, fun b hb => Below.heap_alloc _ _ _ hb⟩
  case rest =>
    obtain ⟨d3, z3, o3, t3, u3, k3⟩ := hcut
    have hg3 : wc.cell? ⟨0, 0, none⟩ = some (.iface 49 (.pointer (some ad))) := by
      rw [World.cell?_of_block (w := w2) (k3 0 (by omega)), hB.cell (by simpa using hpos)]
      exact HG.out
    have x0 : Rx w wc _ w2.heap.size w1.heap.size (.iface 49 (.pointer (some ad))) l pre l pre := Rx.start d3 z3 ((k3 _ (by omega)).trans hR) (hS.up (fun b hb => k3 b (by omega))) hg3 (hB.trans ⟨o3, t3, u3, by omega, fun b hb => k3 b (by omega)⟩) (by omega) z1 hpos
    clear d3 hg3 hd hR hS k3 o3 t3 u3
    have y1 := x0.fn
    go_wp2_with fail
    refine (M1 _ _ _ x0.rs).mono ?_
    rintro e w3 ⟨rfl, r1, t1⟩
    have x1 := x0.call r1 t1
    clear x0 r1 t1 y1
    have y1 := x1.fn
    go_wp2_with fail
    refine (M2 _ _ _ x1.rs).mono ?_
    rintro e w4 ⟨rfl, r1, t1⟩
    have x2 := x1.call r1 t1
    clear x1 r1 t1 y1
    have y1 := x2.fn
    go_wp2_with fail
    refine (M3 _ _ _ x2.rs).mono ?_
    rintro e w5 ⟨rfl, r1, t1⟩
    have x3 := x2.call r1 t1
    clear x2 r1 t1 y1
    have y1 := x3.fn
    go_wp2_with fail
    refine (M4 _ _ _ _ x3.rs x3.fn).mono ?_
    rintro e w6 ⟨v4, rfl, k4, r1, t1⟩
    have x4 := x3.call r1 t1
    obtain ⟨ka, kn, kc, rfl⟩ := key_slice k4
    have K4 : Hid (∀ W, (∀ b, b < w1.heap.size → W.heap[b]? = wc.heap[b]?) → KeyIs W w1.heap.size (.slice ka kn kc) k) := fun W h => k4.up (fun b hb => (h b hb).trans (x4.low b hb).symm)
    clear x3 r1 t1 y1 k4
    have y1 := x4.fn
    go_wp2_with fail
    refine (M5 _ _ _ x4.rs).mono ?_
    rintro e w7 ⟨rfl, r1, t1⟩
    have x5 := x4.call r1 t1
    clear x4 r1 t1 y1
    have y1 := x5.fn
    go_wp2_with fail
    refine (M6 _ _ _ _ x5.rs x5.fn).mono ?_
    rintro e w8 ⟨v6, rfl, k6, r1, t1⟩
    have x6 := x5.call r1 t1
    obtain ⟨xa, xn, xc, rfl⟩ := key_slice k6
    have K6 : Hid (∀ W, (∀ b, b < w1.heap.size → W.heap[b]? = wc.heap[b]?) → KeyIs W w1.heap.size (.slice xa xn xc) y) := fun W h => k6.up (fun b hb => (h b hb).trans (x6.low b hb).symm)
    clear x5 r1 t1 y1 k6
    have y2 := x6.rs.cellK
    go_upto_region 17 with fail
    go_cut [17] from 19 to 56 (fun q wx => wx = w8 ∧ q = .bool (e6 || !decide (o < 5)))
    case first =>
      cases e6
      · simp only [Bool.not_false] at y2
        go_wp2_with (go_at_call 15; refine (known_any o ho _).mono ?_; rintro e w' ⟨rfl, rfl⟩)
        go_meet
        case rel => exact ⟨rfl, by simp⟩
      · simp only [Bool.not_true] at y2
        go_wp2_with fail
        go_meet
        case rel => exact ⟨rfl, by simp⟩
    case rest =>
      obtain ⟨rfl, rfl⟩ := hcut
      have hlow := x6.low
      have hb6 := x6.bel
      have hz6 := x6.size
      obtain ⟨rv, hr1, hr2⟩ := x6.rs.rest
      obtain ⟨ra, rc, rfl, hr3⟩ := hr2.bytes
      have HC := command_any x6.dec x6.glob (by omega) (by omega)
      rw [hcmd.out] at HC
      simp only at HC
      have C := hide HC
      clear HC hcmd M1 M2 M3 M4 M5 M6 y2
      go_wp2_with fail
      refine C.out.mono ?_
      rintro e w9 ⟨kv, xv, rfl, hkv, hxv, hdec, hup⟩
      obtain ⟨ka', kn', kc', rfl⟩ := key_slice hkv
      obtain ⟨xa', xn', xc', rfl⟩ := key_slice hxv
      have c1 := hdec.c1
      obtain ⟨sv, c0, ss⟩ := hdec.c0
      have hsz := hup.size
      have hlt : w2.heap.size < w9.heap.size := by omega
      have hltR : w1.heap.size < w9.heap.size := by omega
      have hblk : ∀ b, b < w2.heap.size → w9.heap[b]? = wc.heap[b]? := fun b hb => hup.block b (by omega) (by omega)
      have b9 : Below w.heap.size w w9 := hup.below hb6 (by omega) (by omega)
      have cr : w9.cell? ⟨w1.heap.size, 0, none⟩ = some (.slice ra l6.length rc) := by simp [World.cell?, hblk w1.heap.size (by omega), hr1]
      obtain ⟨sa, sc, rfl, ss1⟩ := ss.bytes
      have A1 : Hid (∀ o, KeyIs (w9.alloc o) w2.heap.size (.slice ka' kn' kc') k) := fun o => hkv.up (fun b hb => Below.heap_alloc _ _ _ (by omega))
      have A2 : Hid (∀ o, KeyIs (w9.alloc o) w2.heap.size (.slice xa' xn' xc') y) := fun o => hxv.up (fun b hb => Below.heap_alloc _ _ _ (by omega))
      have A3 : Hid (∀ o, KeyIs (w9.alloc o) w1.heap.size (.slice ka kn kc) k) := fun o => K4.out _ (fun b hb => ((Below.heap_alloc _ _ _ (by omega)).trans (hblk b (by omega))).trans (hlow b hb))
      have A4 : Hid (∀ o, KeyIs (w9.alloc o) w1.heap.size (.slice xa xn xc) y) := fun o => K6.out _ (fun b hb => ((Below.heap_alloc _ _ _ (by omega)).trans (hblk b (by omega))).trans (hlow b hb))
      have A5 : Hid (∀ o q, SliceIs ((w9.alloc o).drewN q) w1.heap.size (.slice ra l6.length rc) l6) := fun o q => hr2.up (fun b hb => (Below.heap_alloc _ _ _ (by omega)).trans (hblk b (by omega)))
      have A6 : Hid (∀ o q, SliceIs ((w9.alloc o).drewN q) w2.heap.size (.slice sa l6.length sc) l6) := fun o q => ss.up (fun b hb => Below.heap_alloc _ _ _ (by omega))
      have hg9 : w9.cell? ⟨0, 0, none⟩ = some (.iface 49 (.pointer (some ad))) := by rw [b9.cell (by simpa using hpos)]; exact HG.out
      have hlt0 : 0 < w9.heap.size := by omega
      clear C hkv hxv hdec ss ss1 hr1 hr2 hr3 x6 hup K4 K6 hblk hlow
      go_wp2_with fail
      refine (same_any (A1.out _) (A3.out _).slice).mono ?_
      rintro e w' ⟨rfl, rfl⟩
      go_wp2_with fail
      refine (same_any (A2.out _) (A4.out _).slice).mono ?_
      rintro e w' ⟨rfl, rfl⟩
      generalize (e6 || !decide (o < 5)) = er at *
      cases er
      · simp only [Bool.false_eq_true, if_false] at c1
        go_wp2_with fail
        go_quiet ((go_at_call 9; exact Calls.quiet_of_same (equal_any (A6.out _ _).bytes (A5.out _ _).bytes)))
        go_wp2
        go_ret
        exact ⟨by simp, below_q (b9.alloc b9.size _) _⟩
      · simp only [if_true] at c1
        go_wp2_with fail
        go_quiet (fail)
        go_wp2_with fail
        have bz := below_q (b9.alloc b9.size (.cells #[.int .u64 s, .int .u64 n, .int .u8 o, .slice ka' kn' kc', .int .u64 v, .slice xa' xn' xc'] 36)) nq
        have A7 := A5.out (.cells #[.int .u64 s, .int .u64 n, .int .u8 o, .slice ka' kn' kc', .int .u64 v, .slice xa' xn' xc'] 36) nq
        have A8 := A6.out (.cells #[.int .u64 s, .int .u64 n, .int .u8 o, .slice ka' kn' kc', .int .u64 v, .slice xa' xn' xc'] 36) nq
        have c0' : ((w9.alloc (.cells #[.int .u64 s, .int .u64 n, .int .u8 o, .slice ka' kn' kc', .int .u64 v, .slice xa' xn' xc'] 36)).drewN nq).cell? ⟨w2.heap.size, 0, none⟩ = some (.slice sa l6.length sc) := by
          rw [World.cell?_drewN, World.cell?_alloc_past _ _ _ hlt]; exact c0
        have cr' : ((w9.alloc (.cells #[.int .u64 s, .int .u64 n, .int .u8 o, .slice ka' kn' kc', .int .u64 v, .slice xa' xn' xc'] 36)).drewN nq).cell? ⟨w1.heap.size, 0, none⟩ = some (.slice ra l6.length rc) := by
          rw [World.cell?_drewN, World.cell?_alloc_past _ _ _ hltR]; exact cr
        generalize (w9.alloc (.cells #[.int .u64 s, .int .u64 n, .int .u8 o, .slice ka' kn' kc', .int .u64 v, .slice xa' xn' xc'] 36)).drewN nq = W9 at *
        have A9 := hide A7
        have A10 := hide A8
        clear A7 A8
        go_quiet ((go_at_call 9; exact Calls.quiet_of_same (equal_any (A10.out.more _).bytes (A9.out.more _).bytes)))
        go_wp2
        go_ret
        exact ⟨by simp, below_q bz _⟩

set_option maxHeartbeats 800000 in
set_option maxRecDepth 100000 in
theorem raw_long (a : Option Addr) (n c : Nat) (pre : Bool) (w : World) (h : 4096 < n) :
    Calls Ybad.prog 4 #[.slice a n c, .bool pre] w fun e w' => e = .returned (.bool true) ∧ Below w.heap.size w w' := by
  have g1 : decide (4096 < (n : Int)) = true := by simp; omega
  go_enter Ybad.func4, Ybad.ntmps4
  go_wp2
  go_ret
  exact ⟨rfl, Below.refl _ _⟩
end Go.Proofs.YbulkdceqDoor
