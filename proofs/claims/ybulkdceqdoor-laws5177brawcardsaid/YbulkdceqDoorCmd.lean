/-
  THE WALK of (*decoder).command.
-/
import Derived.Test.YbulkdceqDoorDec
namespace Go.Proofs.YbulkdceqDoor
open Go.RowKit

theorem Cx.start {w : World} {D : Nat} {ev : Value} {l : List UInt8} {er : Bool} (d : DecIs w D ev l er) (hg : w.cell? ⟨0, 0, none⟩ = some ev) (hD : 0 < D) (r cs : Array Value) (hr : r.size = 6) :
    Cx w ((w.alloc (.cells r 36)).alloc (.cells cs 36)) D ev l er cs := by
  have d0 := d
  obtain ⟨sv, h1, _⟩ := d0
  have hlt : D < w.heap.size := (Array.getElem?_eq_some_iff.1 h1).1
  have z1 : (w.alloc (.cells r 36)).heap.size = w.heap.size + 1 := by simp
  have hb : ∀ b, b < w.heap.size → ((w.alloc (.cells r 36)).alloc (.cells cs 36)).heap[b]? = w.heap[b]? := fun b hb => by
    rw [Below.heap_alloc _ _ _ (by rw [z1]; omega), Below.heap_alloc _ _ _ hb]
  refine ⟨d.up (fun b hb' => hb b (by omega)), by rw [World.cell?_of_block (w := w) (hb 0 (by omega))]; exact hg, ?_, ⟨r, hr, ?_⟩, ⟨rfl, rfl, rfl, by simp; omega, fun b _ hlt => hb b hlt⟩, hlt, hD⟩
  · have := (MapKept.heap_alloc (w.alloc (.cells r 36)) (.cells cs 36)).1
    rwa [z1] at this
  · rw [Below.heap_alloc _ _ _ (by rw [z1]; omega)]
    exact (MapKept.heap_alloc w (.cells r 36)).1

/-- a method's contract, for every world in which the decoder reads so -/
def Meth (f D : Nat) (ev : Value) (l : List UInt8) (er : Bool) (v : Value) (l' : List UInt8) (er' : Bool) : Prop :=
  ∀ W, DecIs W D ev l er → W.cell? ⟨0, 0, none⟩ = some ev → Calls Ybad.prog f #[.pointer (some ⟨D, 0, none⟩)] W fun e w' => e = .returned v ∧ DecIs w' D ev l' er' ∧ Turned D W w'
def MethK (f D : Nat) (ev : Value) (l : List UInt8) (er : Bool) (k : List UInt8) (l' : List UInt8) (er' : Bool) : Prop :=
  ∀ W, DecIs W D ev l er → W.cell? ⟨0, 0, none⟩ = some ev → Calls Ybad.prog f #[.pointer (some ⟨D, 0, none⟩)] W fun e w' => ∃ v, e = .returned v ∧ KeyIs w' D v k ∧ DecIs w' D ev l' er' ∧ Turned D W w'

theorem Cx.low {w W : World} {D : Nat} {ev : Value} {l : List UInt8} {er : Bool} {cs : Array Value} (x : Cx w W D ev l er cs) : ∀ b, b < D → W.heap[b]? = w.heap[b]? := fun b hb => x.up.block b (by omega) (by have := x.lt; omega)
theorem setCells_other (b : Nat) : ∀ (vs : List Value) (o : Nat) (w : World) (k : Nat), k ≠ b → (w.setCells b o vs).heap[k]? = w.heap[k]?
  | [], _, _, _, _ => rfl
  | _ :: r, o, _, k, h => (setCells_other b r (o + 1) _ k h).trans (Below.heap_setCell _ _ _ _ h)
theorem setCells_size (b : Nat) : ∀ (vs : List Value) (o : Nat) (w : World), (w.setCells b o vs).heap.size = w.heap.size
  | [], _, _ => rfl
  | _ :: r, o, _ => (setCells_size b r (o + 1) _).trans (by simp [World.setCell])
theorem setCells_same (b : Nat) : ∀ (vs : List Value) (o : Nat) (w : World), (w.setCells b o vs).os = w.os ∧ (w.setCells b o vs).tape = w.tape ∧ (w.setCells b o vs).output = w.output
  | [], _, _ => ⟨rfl, rfl, rfl⟩
  | v :: r, o, w => by
    have h := setCells_same b r (o + 1) (w.setCell ⟨b, o, none⟩ v)
    exact h
/-- the result laid in its own variable -/
theorem Cx.fin {w W : World} {D : Nat} {ev : Value} {l : List UInt8} {er : Bool} {cs : Array Value} (x : Cx w W D ev l er cs) (vs : List Value) {v1 v2 : Value} {k y : List UInt8}
    (h1 : Hid (∀ W, (∀ b, b < D → W.heap[b]? = w.heap[b]?) → KeyIs W D v1 k)) (h2 : Hid (∀ W, (∀ b, b < D → W.heap[b]? = w.heap[b]?) → KeyIs W D v2 y)) :
    KeyIs (W.setCells w.heap.size 0 vs) D v1 k ∧ KeyIs (W.setCells w.heap.size 0 vs) D v2 y ∧ DecIs (W.setCells w.heap.size 0 vs) D ev l er ∧ TurnedUp D w (W.setCells w.heap.size 0 vs) := by
  have hlt := x.lt
  have hb : ∀ b, b < w.heap.size → (W.setCells w.heap.size 0 vs).heap[b]? = W.heap[b]? := fun b hb => setCells_other _ _ _ _ _ (by omega)
  have hl : ∀ b, b < D → (W.setCells w.heap.size 0 vs).heap[b]? = w.heap[b]? := fun b h => (hb b (by omega)).trans (x.low b h)
  obtain ⟨s1, s2, s3⟩ := setCells_same w.heap.size vs 0 W
  exact ⟨h1.out _ hl, h2.out _ hl, x.dec.up (fun b h => hb b (by omega)), ⟨s1.trans x.up.os, s2.trans x.up.tape, s3.trans x.up.output, by rw [setCells_size]; exact x.up.size, fun b h1 h2 => (hb b h2).trans (x.up.block b h1 h2)⟩⟩
theorem six (r : Array Value) (h : r.size = 6) : ∃ q0 q1 q2 q3 q4 q5, r = #[q0, q1, q2, q3, q4, q5] := by
  obtain ⟨l⟩ := r
  match l, h with
  | [a, b, c, d, e, f], _ => exact ⟨a, b, c, d, e, f, rfl⟩
theorem key_slice {w : World} {D : Nat} {v : Value} {l : List UInt8} (h : KeyIs w D v l) : ∃ a n c, v = .slice a n c := by
  rcases h with ⟨_, h⟩ | ⟨g, o, c, _, h, _⟩
  · exact ⟨_, _, _, h⟩
  · exact ⟨_, _, _, h⟩

set_option maxHeartbeats 3200000 in
set_option maxRecDepth 100000 in
theorem command_mid {w : World} {D : Nat} {te : TypeId} {vp : Value} {l l1 l2 l3 l4 l5 l6 : List UInt8} {er e1 e2 e3 e4 e5 e6 : Bool} {s n o v : Nat} {k y : List UInt8} (d : DecIs w D (.iface te vp) l er) (hg : w.cell? ⟨0, 0, none⟩ = some (.iface te vp)) (hD : 0 < D)
    (ho : o < 256)
    (M1 : Meth 16 D (.iface te vp) l er (.int .u64 s) l1 e1) (M2 : Meth 16 D (.iface te vp) l1 e1 (.int .u64 n) l2 e2) (M3 : Meth 17 D (.iface te vp) l2 e2 (.int .u8 o) l3 e3)
    (M4 : MethK 18 D (.iface te vp) l3 e3 k l4 e4) (M5 : Meth 16 D (.iface te vp) l4 e4 (.int .u64 v) l5 e5) (M6 : MethK 18 D (.iface te vp) l5 e5 y l6 e6) :
    Calls Ybad.prog 7 #[.pointer (some ⟨D, 0, none⟩)] w fun e w' => ∃ v1 v2, e = .returned (.agg #[.int .u64 s, .int .u64 n, .int .u8 o, v1, .int .u64 v, v2]) ∧
      KeyIs w' D v1 k ∧ KeyIs w' D v2 y ∧ DecIs w' D (.iface te vp) l6 (e6 || !decide (o < 5)) ∧ TurnedUp D w w' := by
  have x0 := Cx.start d hg hD #[Value.int IntKind.u64 0, Value.int IntKind.u64 0, Value.int IntKind.u8 0, Value.slice none 0 0, Value.int IntKind.u64 0, Value.slice none 0 0] #[Value.int IntKind.u64 0, Value.int IntKind.u64 0, Value.int IntKind.u8 0, Value.slice none 0 0, Value.int IntKind.u64 0, Value.slice none 0 0] rfl
  clear d hg
  go_enter Ybad.func7, Ybad.ntmps7
  go_wp2_with fail
  refine (M1 _ x0.dec x0.glob).mono ?_
  rintro e w1 ⟨rfl, d1, t1⟩
  have x1 := x0.call d1 t1
  have i1 : w1.cell? ⟨w.heap.size + 1, 0, none⟩ = some (Value.int IntKind.u64 0) := x1.cell 0
  have f1 := x1.free 0
  have y1 : Cx w (w1.setCell ⟨w.heap.size + 1, 0, none⟩ (.int .u64 s)) D (.iface te vp) l1 e1 #[.int .u64 s, Value.int IntKind.u64 0, Value.int IntKind.u8 0, Value.slice none 0 0, Value.int IntKind.u64 0, Value.slice none 0 0] := x1.store 0 _
  clear d1 t1 x1 x0
  go_wp2_with fail
  refine (M2 _ y1.dec y1.glob).mono ?_
  rintro e w2 ⟨rfl, d2, t2⟩
  have x2 := y1.call d2 t2
  have i2 : w2.cell? ⟨w.heap.size + 1, 1, none⟩ = some (Value.int IntKind.u64 0) := x2.cell 1
  have f2 := x2.free 1
  have y2 : Cx w (w2.setCell ⟨w.heap.size + 1, 1, none⟩ (.int .u64 n)) D (.iface te vp) l2 e2 #[.int .u64 s, .int .u64 n, Value.int IntKind.u8 0, Value.slice none 0 0, Value.int IntKind.u64 0, Value.slice none 0 0] := x2.store 1 _
  clear d2 t2 x2 y1
  go_wp2_with fail
  refine (M3 _ y2.dec y2.glob).mono ?_
  rintro e w3 ⟨rfl, d3, t3⟩
  have x3 := y2.call d3 t3
  have i3 : w3.cell? ⟨w.heap.size + 1, 2, none⟩ = some (Value.int IntKind.u8 0) := x3.cell 2
  have f3 := x3.free 2
  have y3 : Cx w (w3.setCell ⟨w.heap.size + 1, 2, none⟩ (.int .u8 o)) D (.iface te vp) l3 e3 #[.int .u64 s, .int .u64 n, .int .u8 o, Value.slice none 0 0, Value.int IntKind.u64 0, Value.slice none 0 0] := x3.store 2 _
  clear d3 t3 x3 y2
  go_wp2_with fail
  refine (M4 _ y3.dec y3.glob).mono ?_
  rintro e w4 ⟨v4, rfl, hk4, d4, t4⟩
  have x4 := y3.call d4 t4
  obtain ⟨a4, n4, c4, rfl⟩ := key_slice hk4
  have K4 : Hid (∀ W, (∀ b, b < D → W.heap[b]? = w.heap[b]?) → KeyIs W D (.slice a4 n4 c4) k) := fun W h => hk4.up (fun b hb => (h b hb).trans (x4.low b hb).symm)
  have i4 : w4.cell? ⟨w.heap.size + 1, 3, none⟩ = some (Value.slice none 0 0) := x4.cell 3
  have f4 := x4.free 3
  have y4 : Cx w (w4.setCell ⟨w.heap.size + 1, 3, none⟩ (.slice a4 n4 c4)) D (.iface te vp) l4 e4 #[.int .u64 s, .int .u64 n, .int .u8 o, .slice a4 n4 c4, Value.int IntKind.u64 0, Value.slice none 0 0] := x4.store 3 _
  clear d4 t4 x4 hk4 y3
  go_wp2_with fail
  refine (M5 _ y4.dec y4.glob).mono ?_
  rintro e w5 ⟨rfl, d5, t5⟩
  have x5 := y4.call d5 t5
  have i5 : w5.cell? ⟨w.heap.size + 1, 4, none⟩ = some (Value.int IntKind.u64 0) := x5.cell 4
  have f5 := x5.free 4
  have y5 : Cx w (w5.setCell ⟨w.heap.size + 1, 4, none⟩ (.int .u64 v)) D (.iface te vp) l5 e5 #[.int .u64 s, .int .u64 n, .int .u8 o, .slice a4 n4 c4, .int .u64 v, Value.slice none 0 0] := x5.store 4 _
  clear d5 t5 x5 y4
  go_wp2_with fail
  refine (M6 _ y5.dec y5.glob).mono ?_
  rintro e w6 ⟨v6, rfl, hk6, d6, t6⟩
  have x6 := y5.call d6 t6
  obtain ⟨a6, n6, c6, rfl⟩ := key_slice hk6
  have K6 : Hid (∀ W, (∀ b, b < D → W.heap[b]? = w.heap[b]?) → KeyIs W D (.slice a6 n6 c6) y) := fun W h => hk6.up (fun b hb => (h b hb).trans (x6.low b hb).symm)
  have i6 : w6.cell? ⟨w.heap.size + 1, 5, none⟩ = some (Value.slice none 0 0) := x6.cell 5
  have f6 := x6.free 5
  have y6 : Cx w (w6.setCell ⟨w.heap.size + 1, 5, none⟩ (.slice a6 n6 c6)) D (.iface te vp) l6 e6 #[.int .u64 s, .int .u64 n, .int .u8 o, .slice a4 n4 c4, .int .u64 v, .slice a6 n6 c6] := x6.store 5 _
  clear d6 t6 x6 hk6 y5
  generalize hW : w6.setCell ⟨w.heap.size + 1, 5, none⟩ (.slice a6 n6 c6) = W at y6
  have HW : Hid (w6.setCell ⟨w.heap.size + 1, 5, none⟩ (.slice a6 n6 c6) = W) := hW
  have j2 : W.cell? ⟨w.heap.size + 1, 2, none⟩ = some (.int .u8 o) := y6.cell 2
  go_wp2_with fail
  refine (known_any o ho W).mono ?_
  rintro e w' ⟨rfl, rfl⟩
  clear i1 f1 i2 f2 i3 f3 i4 f4 i5 f5 i6 f6 hW HW
  by_cases h5 : o < 5
  · have hb : decide (o < 5) = true := by simpa using h5
    have j0 : w'.cell? ⟨w.heap.size + 1, 0, none⟩ = some (.int .u64 s) := y6.cell 0
    have j1 : w'.cell? ⟨w.heap.size + 1, 1, none⟩ = some (.int .u64 n) := y6.cell 1
    have j3 : w'.cell? ⟨w.heap.size + 1, 3, none⟩ = some (.slice a4 n4 c4) := y6.cell 3
    have j4 : w'.cell? ⟨w.heap.size + 1, 4, none⟩ = some (.int .u64 v) := y6.cell 4
    have j5 : w'.cell? ⟨w.heap.size + 1, 5, none⟩ = some (.slice a6 n6 c6) := y6.cell 5
    obtain ⟨r, r1, r2⟩ := y6.res
    obtain ⟨q0, q1, q2, q3, q4, q5, rfl⟩ : ∃ q0 q1 q2 q3 q4 q5, r = #[q0, q1, q2, q3, q4, q5] := six r r1
    have p0 : w'.cell? ⟨w.heap.size, 0, none⟩ = some q0 := by simp [World.cell?, r2]
    have p1 : w'.cell? ⟨w.heap.size, 1, none⟩ = some q1 := by simp [World.cell?, r2]
    have p2 : w'.cell? ⟨w.heap.size, 2, none⟩ = some q2 := by simp [World.cell?, r2]
    have p3 : w'.cell? ⟨w.heap.size, 3, none⟩ = some q3 := by simp [World.cell?, r2]
    have p4 : w'.cell? ⟨w.heap.size, 4, none⟩ = some q4 := by simp [World.cell?, r2]
    have p5 : w'.cell? ⟨w.heap.size, 5, none⟩ = some q5 := by simp [World.cell?, r2]
    have pf : ∀ i, w'.frozen? ⟨w.heap.size, i, none⟩ = false := fun i => by simp [World.frozen?, r2]
    clear r1 r2
    go_wp2_with fail
    have F := y6.fin [.int .u64 s, .int .u64 n, .int .u8 o, .slice a4 n4 c4, .int .u64 v, .slice a6 n6 c6] K4 K6
    exact bodyPost_ret (v := .agg #[.int .u64 s, .int .u64 n, .int .u8 o, .slice a4 n4 c4, .int .u64 v, .slice a6 n6 c6]) (by simp [results, Ybad.results7, go_sem, p0, p1, p2, p3, p4, p5]) rfl ⟨_, _, rfl, F.1, F.2.1, by rw [hb, Bool.not_true, Bool.or_false]; exact F.2.2.1, F.2.2.2⟩
  · have hb : decide (o < 5) = false := by simpa using h5
    go_wp2_with fail
    refine (fail_any y6.dec y6.glob).mono ?_
    rintro e w7 ⟨rfl, d7, t7⟩
    have y7 := y6.call d7 t7
    clear d7 t7 y6 j2
    have j2 : w7.cell? ⟨w.heap.size + 1, 2, none⟩ = some (.int .u8 o) := y7.cell 2
    have j0 : w7.cell? ⟨w.heap.size + 1, 0, none⟩ = some (.int .u64 s) := y7.cell 0
    have j1 : w7.cell? ⟨w.heap.size + 1, 1, none⟩ = some (.int .u64 n) := y7.cell 1
    have j3 : w7.cell? ⟨w.heap.size + 1, 3, none⟩ = some (.slice a4 n4 c4) := y7.cell 3
    have j4 : w7.cell? ⟨w.heap.size + 1, 4, none⟩ = some (.int .u64 v) := y7.cell 4
    have j5 : w7.cell? ⟨w.heap.size + 1, 5, none⟩ = some (.slice a6 n6 c6) := y7.cell 5
    obtain ⟨r, r1, r2⟩ := y7.res
    obtain ⟨q0, q1, q2, q3, q4, q5, rfl⟩ : ∃ q0 q1 q2 q3 q4 q5, r = #[q0, q1, q2, q3, q4, q5] := six r r1
    have p0 : w7.cell? ⟨w.heap.size, 0, none⟩ = some q0 := by simp [World.cell?, r2]
    have p1 : w7.cell? ⟨w.heap.size, 1, none⟩ = some q1 := by simp [World.cell?, r2]
    have p2 : w7.cell? ⟨w.heap.size, 2, none⟩ = some q2 := by simp [World.cell?, r2]
    have p3 : w7.cell? ⟨w.heap.size, 3, none⟩ = some q3 := by simp [World.cell?, r2]
    have p4 : w7.cell? ⟨w.heap.size, 4, none⟩ = some q4 := by simp [World.cell?, r2]
    have p5 : w7.cell? ⟨w.heap.size, 5, none⟩ = some q5 := by simp [World.cell?, r2]
    have pf : ∀ i, w7.frozen? ⟨w.heap.size, i, none⟩ = false := fun i => by simp [World.frozen?, r2]
    clear r1 r2
    go_wp2_with fail
    have F := y7.fin [.int .u64 s, .int .u64 n, .int .u8 o, .slice a4 n4 c4, .int .u64 v, .slice a6 n6 c6] K4 K6
    exact bodyPost_ret (v := .agg #[.int .u64 s, .int .u64 n, .int .u8 o, .slice a4 n4 c4, .int .u64 v, .slice a6 n6 c6]) (by simp [results, Ybad.results7, go_sem, p0, p1, p2, p3, p4, p5]) rfl ⟨_, _, rfl, F.1, F.2.1, by rw [hb, Bool.not_false, Bool.or_true]; exact F.2.2.1, F.2.2.2⟩

theorem command_any {w : World} {D : Nat} {te : TypeId} {vp : Value} {l : List UInt8} {er : Bool} (d : DecIs w D (.iface te vp) l er) (hg : w.cell? ⟨0, 0, none⟩ = some (.iface te vp)) (hD : 0 < D) (hlen : l.length ≤ 100000) :
    Calls Ybad.prog 7 #[.pointer (some ⟨D, 0, none⟩)] w fun e w' => ∃ v1 v2, e = .returned (.agg #[.int .u64 (cmd l er).session, .int .u64 (cmd l er).number, .int .u8 (cmd l er).op, v1, .int .u64 (cmd l er).version, v2]) ∧
      KeyIs w' D v1 (cmd l er).key ∧ KeyIs w' D v2 (cmd l er).value ∧ DecIs w' D (.iface te vp) (cmd l er).rest (cmd l er).er ∧ TurnedUp D w w' := by
  have n1 := uv_len l er
  have n2 := uv_len (uv l er).2.1 (uv l er).2.2
  have n3 := byt_len (uv (uv l er).2.1 (uv l er).2.2).2.1 (uv (uv l er).2.1 (uv l er).2.2).2.2
  have n4 := bts_len (byt (uv (uv l er).2.1 (uv l er).2.2).2.1 (uv (uv l er).2.1 (uv l er).2.2).2.2).2.1 (byt (uv (uv l er).2.1 (uv l er).2.2).2.1 (uv (uv l er).2.1 (uv l er).2.2).2.2).2.2
  have n5 := uv_len (bts (byt (uv (uv l er).2.1 (uv l er).2.2).2.1 (uv (uv l er).2.1 (uv l er).2.2).2.2).2.1 (byt (uv (uv l er).2.1 (uv l er).2.2).2.1 (uv (uv l er).2.1 (uv l er).2.2).2.2).2.2).2.1 (bts (byt (uv (uv l er).2.1 (uv l er).2.2).2.1 (uv (uv l er).2.1 (uv l er).2.2).2.2).2.1 (byt (uv (uv l er).2.1 (uv l er).2.2).2.1 (uv (uv l er).2.1 (uv l er).2.2).2.2).2.2).2.2
  exact command_mid d hg hD (byt_lt _ _) (fun W dW gW => uvarint_any dW gW) (fun W dW gW => uvarint_any dW gW) (fun W dW gW => byte_any dW gW) (fun W dW gW => bytes_any dW gW (by omega) (by omega)) (fun W dW gW => uvarint_any dW gW) (fun W dW gW => bytes_any dW gW (by omega) (by omega))
end Go.Proofs.YbulkdceqDoor
