/-
  THE WALKS of BEUint64, BEPutUint32, BEPutUint64; '==' of the zone handles.
-/
import Derived.Test.YbulkdcggDoorSum
import Derived.Lib.Endian
import Derived.Lib.EndianBits
import Derived.Laws.IdiomCopy
import Derived.Laws.StructEq
import Derived.Laws.Pointers
import Derived.LaidEqlPtr
import Derived.Deep.QuietTactic
import Derived.Lib.EndianMore
namespace Go.Proofs.YbulkdcggDoor
open Go.RowKit

set_option maxHeartbeats 3200000 in
set_option maxRecDepth 100000 in
theorem get64 (g o n c : Nat) (b0 b1 b2 b3 b4 b5 b6 b7 : UInt8) (w : World) (hn : 8 ≤ n)
    (c0 : w.cell? ⟨g, o, none⟩ = some (.int .u8 b0.toNat)) (c1 : w.cell? ⟨g, o + 1, none⟩ = some (.int .u8 b1.toNat)) (c2 : w.cell? ⟨g, o + 2, none⟩ = some (.int .u8 b2.toNat)) (c3 : w.cell? ⟨g, o + 3, none⟩ = some (.int .u8 b3.toNat)) (c4 : w.cell? ⟨g, o + 4, none⟩ = some (.int .u8 b4.toNat)) (c5 : w.cell? ⟨g, o + 5, none⟩ = some (.int .u8 b5.toNat)) (c6 : w.cell? ⟨g, o + 6, none⟩ = some (.int .u8 b6.toNat)) (c7 : w.cell? ⟨g, o + 7, none⟩ = some (.int .u8 b7.toNat)) :
    Calls Ybad.prog 14 #[.slice (some ⟨g, o, none⟩) n c] w fun e w' => e = .returned (.int .u64 (Lib.beNat [b0, b1, b2, b3, b4, b5, b6, b7])) ∧ Below w.heap.size w w' := by
  have h0 : b0.toNat < 256 := b0.toNat_lt
  have h1 : b1.toNat < 256 := b1.toNat_lt
  have h2 : b2.toNat < 256 := b2.toNat_lt
  have h3 : b3.toNat < 256 := b3.toNat_lt
  have h4 : b4.toNat < 256 := b4.toNat_lt
  have h5 : b5.toNat < 256 := b5.toNat_lt
  have h6 : b6.toNat < 256 := b6.toNat_lt
  have h7 : b7.toNat < 256 := b7.toNat_lt
  have hv : ((Lib.beNat [b0, b1, b2, b3, b4, b5, b6, b7] : Nat) : Int) = (b7.toNat : Int) + (b6.toNat : Int) * 256 + (b5.toNat : Int) * 65536 + (b4.toNat : Int) * 16777216 + (b3.toNat : Int) * 4294967296 + (b2.toNat : Int) * 1099511627776 + (b1.toNat : Int) * 281474976710656 + (b0.toNat : Int) * 72057594037927936 := by
    simp only [Lib.beNat, Lib.beFrom]
    push_cast
    omega
  have q0 : 0 < n := by omega
  have q1 : (1 : Int) < (n : Int) := by omega
  have q2 : (2 : Int) < (n : Int) := by omega
  have q3 : (3 : Int) < (n : Int) := by omega
  have q4 : (4 : Int) < (n : Int) := by omega
  have q5 : (5 : Int) < (n : Int) := by omega
  have q6 : (6 : Int) < (n : Int) := by omega
  have q7 : (7 : Int) < (n : Int) := by omega
  go_enter Ybad.func14, Ybad.ntmps14
  go_upto_region 2 with fail
  go_quiet (fail)
  go_wp2
  go_ret
  refine ⟨?_, ⟨rfl, rfl, rfl, Nat.le_refl _, fun _ _ => rfl⟩⟩
  simp (disch := omega) only [u64_or8, u64_or16, u64_or24, u64_or32, u64_or40, u64_or48, u64_or56]
  rw [hv]
  rfl

set_option maxHeartbeats 3200000 in
set_option maxRecDepth 100000 in
theorem put32 (g o n c v : Nat) (hv : v < 4294967296) (x0 x1 x2 x3 : Value) (w : World) (hn : 4 ≤ n)
    (c0 : w.cell? ⟨g, o, none⟩ = some x0) (c1 : w.cell? ⟨g, o + 1, none⟩ = some x1) (c2 : w.cell? ⟨g, o + 2, none⟩ = some x2) (c3 : w.cell? ⟨g, o + 3, none⟩ = some x3)
    (f0 : w.frozen? ⟨g, o, none⟩ = false) (f1 : w.frozen? ⟨g, o + 1, none⟩ = false) (f2 : w.frozen? ⟨g, o + 2, none⟩ = false) (f3 : w.frozen? ⟨g, o + 3, none⟩ = false) :
    Calls Ybad.prog 16 #[.slice (some ⟨g, o, none⟩) n c, .int .u32 v] w fun e w' => e = .returned (.tuple #[]) ∧ w' = w.setCells g o (Lib.byteCells (Lib.beBytes 4 v)) := by
  have e0 : ((v % 256 : Nat) : Int) = (v : Int) % 256 := by omega
  have e1 : ((v / 256 % 256 : Nat) : Int) = (v : Int) / 256 % 256 := by omega
  have e2 : ((v / 256 / 256 % 256 : Nat) : Int) = (v : Int) / 65536 % 256 := by omega
  have e3 : ((v / 256 / 256 / 256 % 256 : Nat) : Int) = (v : Int) / 16777216 := by omega
  have hb : Lib.byteCells (Lib.beBytes 4 v) = [Value.int .u8 ((v : Int) / 16777216), Value.int .u8 ((v : Int) / 65536 % 256), Value.int .u8 ((v : Int) / 256 % 256), Value.int .u8 ((v : Int) % 256)] := by
    simp only [Lib.byteCells, Lib.beBytes, Lib.leBytes, List.reverse_cons, List.reverse_nil, List.nil_append, List.cons_append, List.map, Lib.toUInt8_mod, e0, e1, e2, e3]
  go_enter Ybad.func16, Ybad.ntmps16
  go_wp2
  go_end0
  refine ⟨rfl, ?_⟩
  rw [hb]
  rfl

set_option maxHeartbeats 3200000 in
set_option maxRecDepth 100000 in
theorem put64 (g o n c v : Nat) (hv : v < 18446744073709551616) (x0 x1 x2 x3 x4 x5 x6 x7 : Value) (w : World) (hn : 8 ≤ n)
    (c0 : w.cell? ⟨g, o, none⟩ = some x0) (c1 : w.cell? ⟨g, o + 1, none⟩ = some x1) (c2 : w.cell? ⟨g, o + 2, none⟩ = some x2) (c3 : w.cell? ⟨g, o + 3, none⟩ = some x3) (c4 : w.cell? ⟨g, o + 4, none⟩ = some x4) (c5 : w.cell? ⟨g, o + 5, none⟩ = some x5) (c6 : w.cell? ⟨g, o + 6, none⟩ = some x6) (c7 : w.cell? ⟨g, o + 7, none⟩ = some x7)
    (f0 : w.frozen? ⟨g, o, none⟩ = false) (f1 : w.frozen? ⟨g, o + 1, none⟩ = false) (f2 : w.frozen? ⟨g, o + 2, none⟩ = false) (f3 : w.frozen? ⟨g, o + 3, none⟩ = false) (f4 : w.frozen? ⟨g, o + 4, none⟩ = false) (f5 : w.frozen? ⟨g, o + 5, none⟩ = false) (f6 : w.frozen? ⟨g, o + 6, none⟩ = false) (f7 : w.frozen? ⟨g, o + 7, none⟩ = false) :
    Calls Ybad.prog 17 #[.slice (some ⟨g, o, none⟩) n c, .int .u64 v] w fun e w' => e = .returned (.tuple #[]) ∧ w' = w.setCells g o (Lib.byteCells (Lib.beBytes 8 v)) := by
  have e0 : ((v % 256 : Nat) : Int) = (v : Int) % 256 := by omega
  have e1 : ((v / 256 % 256 : Nat) : Int) = (v : Int) / 256 % 256 := by omega
  have e2 : ((v / 256 / 256 % 256 : Nat) : Int) = (v : Int) / 65536 % 256 := by omega
  have e3 : ((v / 256 / 256 / 256 % 256 : Nat) : Int) = (v : Int) / 16777216 % 256 := by omega
  have e4 : ((v / 256 / 256 / 256 / 256 % 256 : Nat) : Int) = (v : Int) / 4294967296 % 256 := by omega
  have e5 : ((v / 256 / 256 / 256 / 256 / 256 % 256 : Nat) : Int) = (v : Int) / 1099511627776 % 256 := by omega
  have e6 : ((v / 256 / 256 / 256 / 256 / 256 / 256 % 256 : Nat) : Int) = (v : Int) / 281474976710656 % 256 := by omega
  have e7 : ((v / 256 / 256 / 256 / 256 / 256 / 256 / 256 % 256 : Nat) : Int) = (v : Int) / 72057594037927936 := by omega
  have hb : Lib.byteCells (Lib.beBytes 8 v) = [Value.int .u8 ((v : Int) / 72057594037927936), Value.int .u8 ((v : Int) / 281474976710656 % 256), Value.int .u8 ((v : Int) / 1099511627776 % 256), Value.int .u8 ((v : Int) / 4294967296 % 256), Value.int .u8 ((v : Int) / 16777216 % 256), Value.int .u8 ((v : Int) / 65536 % 256), Value.int .u8 ((v : Int) / 256 % 256), Value.int .u8 ((v : Int) % 256)] := by
    simp only [Lib.byteCells, Lib.beBytes, Lib.leBytes, List.reverse_cons, List.reverse_nil, List.nil_append, List.cons_append, List.map, Lib.toUInt8_mod, e0, e1, e2, e3, e4, e5, e6, e7]
  go_enter Ybad.func17, Ybad.ntmps17
  go_wp2
  go_end0
  refine ⟨rfl, ?_⟩
  rw [hb]
  rfl

/-! ### '==' between zone handles -/
theorem pointee27 : ∃ te j, Ybad.prog.underlying 27 = some (.pointer te) ∧ Ybad.prog.info? te = some j ∧ j.size ≠ 0 := by
  have h : (match Ybad.prog.underlying 27 with | some (.pointer te) => (Ybad.prog.info? te).any (fun j => j.size != 0) | _ => false) = true := by kernel_rfl
  split at h
  · rename_i te he
    cases hx : Ybad.prog.info? te with
    | none => rw [hx] at h; simp at h
    | some j => rw [hx] at h; exact ⟨te, j, he, hx, by simpa using h⟩
  · simp at h
theorem fields29 : ∃ nm, nm ≠ "_" ∧ ∃ f : Field, (Ybad.prog.fieldsOf 29).toList = [f] ∧ f.name = nm ∧ f.type = 27 ∧ f.offset = 0 := by
  have h : (match (Ybad.prog.fieldsOf 29).toList with | [f] => f.name != "_" && f.type == 27 && f.offset == 0 | _ => false) = true := by kernel_rfl
  split at h
  · rename_i f he
    simp at h
    exact ⟨_, h.1.1, f, he, rfl, h.1.2, h.2⟩
  · simp at h
theorem und29 : Ybad.prog.underlying 29 = some (.struct (Ybad.prog.fieldsOf 29)) := by kernel_rfl
theorem held29 : Ybad.prog.stoodInHeld 29 = false := by kernel_rfl
theorem handle_eq {w : World} {p q : Option Addr} {b : Bool} (h : ∀ d : Nat, (Op.equalIn (d + 1) 27 (.pointer p) (.pointer q)).run Ybad.prog w = .ok b w) :
    (binOp .eql 29 (.agg #[.pointer p]) (.agg #[.pointer q])).run Ybad.prog w = .ok (.bool b) w := by
  obtain ⟨nm, hnm, f, hf, rfl, ht, ho⟩ := fields29
  rw [run_eql_struct, run_equalIn_struct w 9999 29 _ _ und29 held29, hf]
  simp only [Op.eqFields, hnm, ne_eq, not_false_eq_true, if_true, Sem.run_bind, ht, ho]
  have hp : ∀ x : Value, (part 27 #[x] 0).run Ybad.prog w = .ok x w := fun x => by simp [part, go_sem]
  cases b <;> simp [hp, h 9998]
theorem ptr_nil (w : World) (p : Option Addr) (d : Nat) : (Op.equalIn (d + 1) 27 (.pointer p) (.pointer none)).run Ybad.prog w = .ok p.isNone w := by
  obtain ⟨te, j, h1, h2, h3⟩ := pointee27
  cases p <;> simp [Op.equalIn, run_underlying h1]
theorem ptr_same (w : World) (a : Addr) (d : Nat) : (Op.equalIn (d + 1) 27 (.pointer (some a)) (.pointer (some a))).run Ybad.prog w = .ok true w := by
  obtain ⟨te, j, h1, h2, h3⟩ := pointee27
  simp [Op.equalIn, run_underlying h1, sizeOf, typeInfo, h2, run_sameAddr_same]
theorem ptr_other (w : World) {a b : Addr} {ca cb : Array Value} {ta tb : TypeId} (hne : a ≠ b) (ha : w.heap[a.block]? = some (.cells ca ta (0, 0))) (hb : w.heap[b.block]? = some (.cells cb tb (0, 0))) (d : Nat) : (Op.equalIn (d + 1) 27 (.pointer (some a)) (.pointer (some b))).run Ybad.prog w = .ok false w := by
  obtain ⟨te, j, h1, h2, h3⟩ := pointee27
  simp [Op.equalIn, run_underlying h1, sizeOf, typeInfo, h2, h3, run_sameAddr_other w hne ha hb]
end Go.Proofs.YbulkdcggDoor
