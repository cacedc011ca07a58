/-
  THE PLAIN MODEL of the checksum. No Go in sight.
-/
namespace Go.Proofs.YbulkdcggDoor

/-- the sum of the big-endian words, an odd last byte padded with zero -/
def words : List UInt8 → Nat
  | [] => 0
  | [b] => b.toNat * 256
  | b :: c :: r => b.toNat * 256 + c.toNat + words r
theorem words_le (k : Nat) : ∀ l : List UInt8, l.length ≤ k → words l ≤ 32768 * (l.length + 1) := by
  induction k using Nat.strongRecOn with
  | _ k ih =>
    intro l hl
    match l, hl with
    | [], _ => simp [words]
    | [b], _ => have := b.toNat_lt; simp [words]; omega
    | b :: c :: r, hl =>
      have h1 := b.toNat_lt
      have h2 := c.toNat_lt
      simp at hl
      have h3 := ih r.length (by omega) r (Nat.le_refl _)
      simp only [words, List.length_cons]
      omega

/-- the ones' complement sum of s in 16 bits -/
def foldN (s : Nat) : Nat := if s = 0 then 0 else (s - 1) % 65535 + 1
theorem foldN_small {s : Nat} (h : s ≤ 65535) : foldN s = s := by
  unfold foldN
  split <;> omega
theorem foldN_le (s : Nat) : foldN s ≤ 65535 := by
  unfold foldN
  split <;> omega
theorem foldN_step {s : Nat} (h : 65535 < s) : foldN (s % 65536 + s / 65536) = foldN s := by
  unfold foldN
  rw [if_neg (by omega), if_neg (by omega)]
  omega
theorem foldN_add {a w : Nat} (hw : w ≤ 65535) : (if 65535 < foldN a + w then foldN a + w - 65535 else foldN a + w) = foldN (a + w) := by
  unfold foldN
  by_cases h : a = 0
  · subst h
    simp only [if_true, Nat.zero_add]
    rw [if_neg (by omega)]
    split <;> omega
  · rw [if_neg h, if_neg (show ¬ (a + w = 0) by omega)]
    split <;> omega

/-- the checksum of a sum -/
def chk (s : Nat) : Nat := if foldN s = 65535 then 65535 else 65535 - foldN s
theorem chk_bounds (s : Nat) : 0 < chk s ∧ chk s ≤ 65535 := by
  have := foldN_le s
  unfold chk
  split <;> omega
theorem chk_again {s : Nat} (h : 0 < s) : chk (s + chk s) = 65535 := by
  have e : foldN (s + chk s) = 65535 := by
    have h1 := foldN_le s
    unfold chk
    have h2 : foldN s = (s - 1) % 65535 + 1 := by unfold foldN; rw [if_neg (by omega)]
    unfold foldN at *
    rw [if_neg (show ¬ s = 0 by omega)] at *
    split
    · rw [if_neg (by omega)]; omega
    · rw [if_neg (by omega)]; omega
  rw [chk, if_pos e]

/-- the datagram: head, checksum field, data -/
theorem words_head (h0 h1 h2 h3 h4 h5 c0 c1 : UInt8) (r : List UInt8) :
    words (h0 :: h1 :: h2 :: h3 :: h4 :: h5 :: c0 :: c1 :: r) = words (h0 :: h1 :: h2 :: h3 :: h4 :: h5 :: 0 :: 0 :: r) + (c0.toNat * 256 + c1.toNat) := by
  simp only [words]
  have : (0 : UInt8).toNat = 0 := rfl
  omega
end Go.Proofs.YbulkdcggDoor
