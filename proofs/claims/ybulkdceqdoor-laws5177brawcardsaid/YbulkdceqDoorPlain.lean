/-
  THE PLAIN MODEL of the decoder: fields read off a list of bytes, with an error flag. No Go in sight.
-/
import Derived.Lib.VarintDec
import Derived.Lib.Varint
namespace Go.Proofs.YbulkdceqDoor

theorem from_le : ∀ (l : List UInt8) (i acc : Nat), (Lib.uvarintFrom i acc l).2 ≤ (i : Int) + l.length
  | [], i, acc => by simp [Lib.uvarintFrom]
  | b :: r, i, acc => by
    unfold Lib.uvarintFrom
    split
    · simp; omega
    · split
      · split
        · simp; omega
        · simp; omega
      · have := from_le r (i + 1) (acc + b.toNat % 128 * 2 ^ (7 * i))
        simp at this ⊢
        omega
theorem dec_le (l : List UInt8) : (Lib.uvarintDec l).2 ≤ l.length := by
  have := from_le l 0 0
  simpa [Lib.uvarintDec] using this

theorem toUInt8_lt {x : Nat} (h : x < 256) : (x.toUInt8).toNat = x := by
  simp [Nat.toUInt8, Nat.mod_eq_of_lt h]

/-- what is written is read -/
theorem from_uvarint (t : List UInt8) (k : Nat) : ∀ (x i acc : Nat), i + k = 9 → x < 2 ^ (64 - 7 * i) → Lib.uvarintFrom i acc (Lib.uvarint x ++ t) = (acc + x * 2 ^ (7 * i), (i : Int) + (Lib.uvarint x).length) := by
  induction k with
  | zero =>
    intro x i acc hk hx
    have : i = 9 := by omega
    subst this
    simp at hx
    rw [Lib.uvarint_small (show x < 128 by omega)]
    simp only [List.cons_append, List.nil_append, Lib.uvarintFrom, toUInt8_lt (show x < 256 by omega), List.length_cons, List.length_nil]
    rw [if_neg (by omega), if_pos (by omega), if_neg (by omega)]
    simp
  | succ k ih =>
    intro x i acc hk hx
    by_cases h : x < 128
    · rw [Lib.uvarint_small h]
      simp only [List.cons_append, List.nil_append, Lib.uvarintFrom, toUInt8_lt (show x < 256 by omega), List.length_cons, List.length_nil]
      rw [if_neg (by omega), if_pos h, if_neg (by omega)]
      simp
    · rw [Lib.uvarint_big (by omega)]
      have hm : x % 128 + 128 < 256 := by omega
      simp only [List.cons_append, Lib.uvarintFrom, toUInt8_lt hm, List.length_cons]
      rw [if_neg (by omega), if_neg (by omega)]
      have hp : 2 ^ (64 - 7 * i) = 128 * 2 ^ (64 - 7 * (i + 1)) := by
        rw [show 64 - 7 * i = 7 + (64 - 7 * (i + 1)) by omega, Nat.pow_add]
      have hx' : x / 128 < 2 ^ (64 - 7 * (i + 1)) := by
        rw [hp] at hx
        exact Nat.div_lt_of_lt_mul hx
      rw [ih (x / 128) (i + 1) _ (by omega) hx']
      have e1 : (x % 128 + 128) % 128 = x % 128 := by omega
      have e2 : 2 ^ (7 * (i + 1)) = 128 * 2 ^ (7 * i) := by rw [show 7 * (i + 1) = 7 + 7 * i by omega, Nat.pow_add]
      rw [e1, e2]
      refine Prod.ext ?_ ?_
      · show acc + x % 128 * 2 ^ (7 * i) + x / 128 * (128 * 2 ^ (7 * i)) = acc + x * 2 ^ (7 * i)
        have : x * 2 ^ (7 * i) = x % 128 * 2 ^ (7 * i) + x / 128 * (128 * 2 ^ (7 * i)) := by
          conv => lhs; rw [← Nat.mod_add_div x 128]
          rw [Nat.add_mul, Nat.mul_comm 128 (x / 128), Nat.mul_assoc]
        omega
      · show ((i + 1 : Nat) : Int) + ((Lib.uvarint (x / 128)).length : Int) = (i : Int) + (((Lib.uvarint (x / 128)).length + 1 : Nat) : Int)
        omega

theorem dec_uvarint (x : Nat) (t : List UInt8) (hx : x < 18446744073709551616) : Lib.uvarintDec (Lib.uvarint x ++ t) = (x, ((Lib.uvarint x).length : Int)) := by
  have := from_uvarint t 9 x 0 0 rfl (by simpa using hx)
  simpa [Lib.uvarintDec] using this

/-- uvarint: the value, the rest, the error -/
def uv (l : List UInt8) (er : Bool) : Nat × List UInt8 × Bool :=
  if er = true then (0, l, true) else if (Lib.uvarintDec l).2 ≤ 0 then (0, l, true) else ((Lib.uvarintDec l).1, l.drop (Lib.uvarintDec l).2.toNat, false)
/-- byte -/
def byt (l : List UInt8) (er : Bool) : Nat × List UInt8 × Bool :=
  if er = true then (0, l, true) else match l with | [] => (0, [], true) | b :: r => (b.toNat, r, false)
/-- bytes -/
def bts (l : List UInt8) (er : Bool) : List UInt8 × List UInt8 × Bool :=
  if (uv l er).2.2 = true then ([], (uv l er).2.1, true)
  else if (uv l er).2.1.length < (uv l er).1 then ([], (uv l er).2.1, true)
  else ((uv l er).2.1.take (uv l er).1, (uv l er).2.1.drop (uv l er).1, false)

theorem uv_lt (l : List UInt8) (er : Bool) : (uv l er).1 < 18446744073709551616 := by
  unfold uv
  split
  · simp
  · split
    · simp
    · exact Lib.uvarintDec_lt l
theorem uv_len (l : List UInt8) (er : Bool) : (uv l er).2.1.length ≤ l.length := by
  unfold uv
  split
  · simp
  · split
    · simp
    · simp
theorem byt_lt (l : List UInt8) (er : Bool) : (byt l er).1 < 256 := by
  unfold byt
  split
  · simp
  · split
    · simp
    · exact UInt8.toNat_lt _
theorem byt_len (l : List UInt8) (er : Bool) : (byt l er).2.1.length ≤ l.length := by
  unfold byt
  split
  · simp
  · split <;> simp
theorem bts_len (l : List UInt8) (er : Bool) : (bts l er).2.1.length ≤ l.length := by
  have := uv_len l er
  unfold bts
  split
  · exact this
  · split
    · exact this
    · simp; omega

theorem uv_read (x : Nat) (t : List UInt8) (hx : x < 18446744073709551616) : uv (Lib.uvarint x ++ t) false = (x, t, false) := by
  have hp := Lib.uvarint_pos x
  unfold uv
  rw [dec_uvarint x t hx, if_neg (by simp), if_neg (by show ¬ (((Lib.uvarint x).length : Int) ≤ 0); omega)]
  simp
theorem byt_read (b : UInt8) (t : List UInt8) : byt (b :: t) false = (b.toNat, t, false) := by simp [byt]
theorem bts_read (k t : List UInt8) (hk : k.length < 18446744073709551616) : bts (Lib.uvarint k.length ++ (k ++ t)) false = (k, t, false) := by
  unfold bts
  rw [uv_read _ _ hk]
  simp

/-- a whole command -/
structure Cmd where
  session : Nat
  number : Nat
  op : Nat
  key : List UInt8
  version : Nat
  value : List UInt8
  rest : List UInt8
  er : Bool
def cmd (l : List UInt8) (er : Bool) : Cmd :=
  let a := uv l er
  let b := uv a.2.1 a.2.2
  let c := byt b.2.1 b.2.2
  let k := bts c.2.1 c.2.2
  let v := uv k.2.1 k.2.2
  let x := bts v.2.1 v.2.2
  ⟨a.1, b.1, c.1, k.1, v.1, x.1, x.2.1, x.2.2 || !decide (c.1 < 5)⟩

theorem cmd_read (s n : Nat) (op : UInt8) (k : List UInt8) (v : Nat) (x t : List UInt8) (hs : s < 18446744073709551616) (hn : n < 18446744073709551616) (hv : v < 18446744073709551616) (hk : k.length < 18446744073709551616) (hx : x.length < 18446744073709551616) (ho : op.toNat < 5) :
    cmd (Lib.uvarint s ++ (Lib.uvarint n ++ (op :: (Lib.uvarint k.length ++ (k ++ (Lib.uvarint v ++ (Lib.uvarint x.length ++ (x ++ t)))))))) false = ⟨s, n, op.toNat, k, v, x, t, false⟩ := by
  simp only [cmd, uv_read _ _ hs, uv_read _ _ hn, byt_read, bts_read _ _ hk, uv_read _ _ hv, bts_read _ _ hx]
  simp [ho]
end Go.Proofs.YbulkdceqDoor
