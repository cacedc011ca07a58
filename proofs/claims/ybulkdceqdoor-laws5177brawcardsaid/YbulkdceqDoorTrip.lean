/-
  THE WALK of LawS5177BRoundTrip.
-/
import Derived.Test.YbulkdceqDoorEq
namespace Go.Proofs.YbulkdceqDoor
open Go.RowKit

theorem SliceIs.up {w W : World} {D : Nat} {v : Value} {l : List UInt8} (d : SliceIs w D v l) (h : ∀ b, b < D → W.heap[b]? = w.heap[b]?) : SliceIs W D v l := by
  obtain ⟨a, c, rfl, h2, h3, h4⟩ := d
  refine ⟨a, c, rfl, h2, h3, fun hl => ?_⟩
  obtain ⟨g, o, rfl, hg, hc⟩ := h4 hl
  exact ⟨g, o, rfl, hg, fun j hj => by rw [World.cell?_of_block (w := w) (h g hg)]; exact hc j hj⟩
theorem hide {p : Prop} (h : p) : Hid p := h
theorem OB.alloc {w W : World} {v : Value} {l : List UInt8} (h : OB w W v l) (o : Obj) : OB w (W.alloc o) v l := ⟨h.own.alloc o, h.bel.alloc h.bel.size o, h.small⟩
/-- append(buf, b) -/
theorem OB.one {w W : World} {v : Value} {l : List UInt8} (h : OB w W v l) (b : UInt8) (hl : l.length ≤ 90000) (ty : TypeId) :
    ∃ v' W', (Builtin.append_ #[23, 23] ty #[v, .slice (some ⟨W.heap.size, 0, none⟩) 1 1]).run Ybad.prog (W.alloc (.cells #[.int .u8 b.toNat] 5)) = .ok v' W' ∧ OB w W' v' (l ++ [b]) := by
  refine (h.alloc (.cells #[.int .u8 b.toNat] 5)).append (k := [b]) (.inr ⟨_, 1, rfl, fun _ => ⟨W.heap.size, 0, rfl, fun j hj => ?_⟩⟩) hl (by simp) ty
  have : j = 0 := by simpa using hj
  subst this
  have e := (MapKept.heap_alloc W (.cells #[.int .u8 b.toNat] 5)).1
  simp only [World.cell?, e]
  simp
/-- append(buf, arg...) -/
theorem OB.arg {w W : World} {v : Value} {l k : List UInt8} (h : OB w W v l) {a : Option Addr} {c : Nat} (hk : ArgIs w w.heap.size (.slice a k.length c) k) (hl : l.length ≤ 90000) (hs : k.length ≤ 4096) (ty : TypeId) :
    ∃ v' W', (Builtin.append_ #[23, 23] ty #[v, .slice a k.length c]).run Ybad.prog W = .ok v' W' ∧ OB w W' v' (l ++ k) := by
  refine h.append ?_ hl (by omega) ty
  rcases hk.up (fun b hb => h.bel.block b hb) with ⟨h1, rfl⟩ | ⟨x, c', h1, h2⟩
  · exact .inl ⟨h1, rfl⟩
  · refine .inr ⟨x, c', h1, fun hne => ?_⟩
    obtain ⟨g, o, e, _, hc⟩ := h2 hne
    exact ⟨g, o, e, hc⟩

/-- the decoder over the buffer -/
theorem OB.box {w W : World} {v : Value} {l : List UInt8} (h : OB w W v l) (hne : l ≠ []) (ev : Value) : DecIs (W.alloc (.cells #[v, .nilIface] 32)) W.heap.size ev l false ∧ ∃ g c, v = .slice (some ⟨g, 0, none⟩) l.length c := by
  have hlen : l.length ≠ 0 := fun e => hne (List.length_eq_zero_iff.1 e)
  rcases h.own.2 with ⟨_, h0⟩ | ⟨g, cap, cur, rfl, hbg, hg, hnc, hcm, hcs, htake⟩
  · exact absurd h0 hlen
  · have hlt : g < W.heap.size := (Array.getElem?_eq_some_iff.1 hg).1
    refine ⟨⟨_, (MapKept.heap_alloc W _).1, _, cap, rfl, hnc, hcm, fun _ => ⟨g, 0, rfl, hlt, fun j hj => ?_⟩⟩, g, cap, rfl⟩
    have hc := h.own.cellAt j (by omega)
    rw [World.cell?_of_block (w := W) (Below.heap_alloc _ _ _ hlt), Nat.zero_add, hc]
    simp [Lib.byteCells, hj]
theorem TurnedUp.below {w w' W : World} {D S : Nat} (h : TurnedUp D w w') (b : Below S W w) (hS : S ≤ D) (hz : S ≤ w.heap.size) : Below S W w' :=
  b.trans ⟨h.os, h.tape, h.output, h.size, fun k hk => h.block k (by omega) (by omega)⟩

set_option maxHeartbeats 800000 in
theorem ops_any (w : World) : Calls Ybad.prog 5 #[] w fun e w' => e = .returned (.agg #[.int .u8 0, .int .u8 1, .int .u8 2, .int .u8 3, .int .u8 4]) ∧ Below w.heap.size w w' := by
  go_enter Ybad.func5, Ybad.ntmps5
  go_wp2
  exact bodyPost_ret (v := .agg #[.int .u8 0, .int .u8 1, .int .u8 2, .int .u8 3, .int .u8 4]) (by simp [results, Ybad.results5, go_sem]) rfl ⟨rfl, (Below.refl _ _).alloc (Nat.le_refl _) _⟩

theorem idx_any (p : Nat) : ∃ op : UInt8, op.toNat < 5 ∧ ∀ w : World, (Instr.index 25 (.agg #[.int .u8 0, .int .u8 1, .int .u8 2, .int .u8 3, .int .u8 4]) (.int .i64 ((p : Int) % 5))).run Ybad.prog w = .ok (.int .u8 op.toNat) w := by
  have h5 : ((p : Int) % 5) = 0 ∨ ((p : Int) % 5) = 1 ∨ ((p : Int) % 5) = 2 ∨ ((p : Int) % 5) = 3 ∨ ((p : Int) % 5) = 4 := by omega
  rcases h5 with h5 | h5 | h5 | h5 | h5 <;> rw [h5]
  · exact ⟨0, by decide, fun w => by kernel_rfl⟩
  · exact ⟨1, by decide, fun w => by kernel_rfl⟩
  · exact ⟨2, by decide, fun w => by kernel_rfl⟩
  · exact ⟨3, by decide, fun w => by kernel_rfl⟩
  · exact ⟨4, by decide, fun w => by kernel_rfl⟩

set_option maxHeartbeats 8000000 in
set_option maxRecDepth 100000 in
theorem trip (s n p v : Nat) (ka va ta : Option Addr) (kc vc tc : Nat) (k x t : List UInt8) (te : TypeId) (vp : Value) (w : World)
    (hs : s < 18446744073709551616) (hn : n < 18446744073709551616) (hv : v < 18446744073709551616) (hp : p < 256)
    (hk : ArgIs w w.heap.size (.slice ka k.length kc) k) (hx : ArgIs w w.heap.size (.slice va x.length vc) x) (ht : ArgIs w w.heap.size (.slice ta t.length tc) t)
    (lk : k.length ≤ 4096) (lx : x.length ≤ 4096) (lt : t.length ≤ 4096)
    (hg : w.cell? ⟨0, 0, none⟩ = some (.iface te vp)) (hpos : 0 < w.heap.size) :
    Calls Ybad.prog 3 #[.int .u64 s, .int .u64 n, .int .u8 p, .slice ka k.length kc, .int .u64 v, .slice va x.length vc, .slice ta t.length tc] w fun e w' => e = .returned (.bool true) ∧ Below w.heap.size w w' := by
  have g1 : decide (4096 < (k.length : Int)) = false := by simp; omega
  have g2 : decide (4096 < (x.length : Int)) = false := by simp; omega
  have g3 : decide (4096 < (t.length : Int)) = false := by simp; omega
  have HK : Hid (ArgIs w w.heap.size (.slice ka k.length kc) k) := hk
  have HX : Hid (ArgIs w w.heap.size (.slice va x.length vc) x) := hx
  have HT : Hid (ArgIs w w.heap.size (.slice ta t.length tc) t) := ht
  have HG : Hid (w.cell? ⟨0, 0, none⟩ = some (.iface te vp)) := hg
  clear hk hx ht hg
  go_enter Ybad.func3, Ybad.ntmps3
  go_upto_region 3 with fail
  go_cut [15] from 19 to 36 (fun q wx => ∃ op : UInt8, op.toNat < 5 ∧ q = .int .u8 op.toNat ∧ Below w.heap.size w wx)
  case first =>
    go_wp2_with fail
    refine (ops_any w).mono ?_
    rintro e w1 ⟨rfl, hb1⟩
    obtain ⟨op, hop, hidx⟩ := idx_any p
    go_wp2_with fail
    go_meet
    case rel => exact ⟨op, hop, rfl, hb1⟩
  case rest =>
    obtain ⟨op, hop, rfl, hb⟩ := hcut
    have o0 : OB w wc (.slice none 0 0) [] := ⟨⟨rfl, .inl ⟨rfl, rfl⟩⟩, hb, by simp⟩
    have us := Lib.uvarint_length64 hs
    have un := Lib.uvarint_length64 hn
    have uw := Lib.uvarint_length64 hv
    have uk := Lib.uvarint_length64 (show k.length < 18446744073709551616 by omega)
    have ux := Lib.uvarint_length64 (show x.length < 18446744073709551616 by omega)
    go_wp2_with fail
    refine (o0.uvarint s hs (by simp)).mono ?_
    rintro e w1 ⟨v1, rfl, o1⟩
    clear o0 hb
    go_wp2_with fail
    refine (o1.uvarint n hn (by simp; omega)).mono ?_
    rintro e w2 ⟨v2, rfl, o2⟩
    clear o1
    obtain ⟨v3, w3, r3, o3⟩ := o2.one op (by simp; omega) 23
    clear o2
    go_wp2_with (at_builtin; refine Lib.wpList_append_run _ rfl _ _ 23 23 rfl _ _ rfl rfl _ _ r3 ?_)
    refine (o3.uvarint k.length (by omega) (by simp; omega)).mono ?_
    rintro e w4 ⟨v4, rfl, o4⟩
    clear o3 r3
    obtain ⟨v5, w5, r5, o5⟩ := o4.arg HK.out (by simp; omega) lk 23
    clear o4
    go_wp2_with (at_builtin; refine Lib.wpList_append_run _ rfl _ _ 23 23 rfl _ _ rfl rfl _ _ r5 ?_)
    refine (o5.uvarint v hv (by simp; omega)).mono ?_
    rintro e w6 ⟨v6, rfl, o6⟩
    clear o5 r5
    go_wp2_with fail
    refine (o6.uvarint x.length (by omega) (by simp; omega)).mono ?_
    rintro e w7 ⟨v7, rfl, o7⟩
    clear o6
    obtain ⟨v8, w8, r8, o8⟩ := o7.arg HX.out (by simp; omega) lx 23
    clear o7
    obtain ⟨v9, w9, r9, o9⟩ := o8.arg HT.out (by simp; omega) lt 23
    clear o8
    generalize hL : [] ++ Lib.uvarint s ++ Lib.uvarint n ++ [op] ++ Lib.uvarint k.length ++ k ++ Lib.uvarint v ++ Lib.uvarint x.length ++ x ++ t = L at o9
    have hcr : cmd L false = ⟨s, n, op.toNat, k, v, x, t, false⟩ := by
      have e9 : L = Lib.uvarint s ++ (Lib.uvarint n ++ (op :: (Lib.uvarint k.length ++ (k ++ (Lib.uvarint v ++ (Lib.uvarint x.length ++ (x ++ t))))))) := by rw [← hL]; simp
      rw [e9]
      exact cmd_read s n op k v x t hs hn hv (by omega) (by omega) hop
    obtain ⟨d9, g9, c9, rfl⟩ := o9.box (by rw [← hL]; simp) (.iface te vp)
    have b9 := o9.bel
    have z9 : w9.heap.size ≥ w.heap.size := b9.size
    have hgl : (w9.alloc (.cells #[.slice (some ⟨g9, 0, none⟩) L.length c9, .nilIface] 32)).cell? ⟨0, 0, none⟩ = some (.iface te vp) := by
      rw [World.cell?_of_block (w := w9) (Below.heap_alloc _ _ _ (by simp only; omega)), b9.cell (by simpa using hpos)]
      exact HG.out
    have HC := command_any d9 hgl (by omega) o9.small
    rw [hcr] at HC
    simp only at HC
    have C := hide HC
    have b10 := b9.alloc b9.size (.cells #[.slice (some ⟨g9, 0, none⟩) L.length c9, .nilIface] 32)
    clear d9 hgl o9 b9 HC hcr hL
    go_wp2_with (first | (at_builtin; refine Lib.wpList_append_run _ rfl _ _ 23 23 rfl _ _ rfl rfl _ _ r8 ?_) | (at_builtin; refine Lib.wpList_append_run _ rfl _ _ 23 23 rfl _ _ rfl rfl _ _ r9 ?_))
    refine C.out.mono ?_
    rintro e w10 ⟨kv, xv, rfl, hkv, hxv, hdec, hup⟩
    obtain ⟨ka', kn', kc', rfl⟩ := key_slice hkv
    obtain ⟨xa', xn', xc', rfl⟩ := key_slice hxv
    have c1 := hdec.c1
    obtain ⟨sv, c0, ss⟩ := hdec.c0
    simp only [Bool.false_eq_true, if_false] at c1
    have hlt : w9.heap.size < w10.heap.size := by have := hup.size; simp at this; omega
    have b11 := hup.below b10 z9 (by simp; omega)
    clear C b10 r8 r9
    obtain ⟨sa, sc, rfl, ss1⟩ := ss.bytes
    have A1 : Hid (∀ o, KeyIs (w10.alloc o) w9.heap.size (.slice ka' kn' kc') k) := fun o => hkv.up (fun b hb => Below.heap_alloc _ _ _ (by omega))
    have A2 : Hid (∀ o, KeyIs (w10.alloc o) w9.heap.size (.slice xa' xn' xc') x) := fun o => hxv.up (fun b hb => Below.heap_alloc _ _ _ (by omega))
    have A3 : Hid (∀ o, ArgIs (w10.alloc o) w.heap.size (.slice ka k.length kc) k) := fun o => HK.out.up (fun b hb => (Below.heap_alloc _ _ _ (by omega)).trans (b11.block b hb))
    have A4 : Hid (∀ o, ArgIs (w10.alloc o) w.heap.size (.slice va x.length vc) x) := fun o => HX.out.up (fun b hb => (Below.heap_alloc _ _ _ (by omega)).trans (b11.block b hb))
    have A5 : Hid (∀ o, ArgIs (w10.alloc o) w.heap.size (.slice ta t.length tc) t) := fun o => HT.out.up (fun b hb => (Below.heap_alloc _ _ _ (by omega)).trans (b11.block b hb))
    have A6 : Hid (∀ o, SliceIs (w10.alloc o) w9.heap.size (.slice sa t.length sc) t) := fun o => ss.up (fun b hb => Below.heap_alloc _ _ _ (by omega))
    clear ss ss1 hkv hxv hdec
    go_wp2_with fail
    refine (same_any (A1.out _) (A3.out _).slice).mono ?_
    rintro e w' ⟨rfl, rfl⟩
    go_wp2_with fail
    refine (same_any (A2.out _) (A4.out _).slice).mono ?_
    rintro e w' ⟨rfl, rfl⟩
    go_wp2_with fail
    refine (equal_any (A6.out _).bytes (A5.out _).slice).mono ?_
    rintro e w' ⟨rfl, rfl⟩
    have ht : (t == t) = true := beq_self_eq_true t
    go_wp2_with fail
    go_ret
    exact ⟨rfl, b11.alloc b11.size _⟩

set_option maxHeartbeats 800000 in
set_option maxRecDepth 100000 in
theorem trip_long (s n p v : Int) (ka va ta : Option Addr) (kl xl tl kc vc tc : Nat) (w : World) (h : 4096 < kl ∨ 4096 < xl ∨ 4096 < tl) :
    Calls Ybad.prog 3 #[.int .u64 s, .int .u64 n, .int .u8 p, .slice ka kl kc, .int .u64 v, .slice va xl vc, .slice ta tl tc] w fun e w' => e = .returned (.bool true) ∧ Below w.heap.size w w' := by
  by_cases h1 : 4096 < kl
  · have g1 : decide (4096 < (kl : Int)) = true := by simp; omega
    go_enter Ybad.func3, Ybad.ntmps3
    go_wp2
    go_ret
    exact ⟨rfl, Below.refl _ _⟩
  have g1 : decide (4096 < (kl : Int)) = false := by simp; omega
  by_cases h2 : 4096 < xl
  · have g2 : decide (4096 < (xl : Int)) = true := by simp; omega
    go_enter Ybad.func3, Ybad.ntmps3
    go_wp2
    go_ret
    exact ⟨rfl, Below.refl _ _⟩
  have g2 : decide (4096 < (xl : Int)) = false := by simp; omega
  have g3 : decide (4096 < (tl : Int)) = true := by simp; omega
  go_enter Ybad.func3, Ybad.ntmps3
  go_wp2
  go_ret
  exact ⟨rfl, Below.refl _ _⟩
end Go.Proofs.YbulkdceqDoor
