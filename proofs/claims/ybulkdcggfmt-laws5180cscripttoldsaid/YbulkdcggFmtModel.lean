/-
  THE WALK of zzs5180cmodel.
-/
import Derived.Test.YbulkdcggFmtBase
import Derived.WalkSmall
namespace Go.Proofs.YbulkdcggFmt
open Go.RowKit

/-- what the model answers -/
def ansOf : Option Nat → Int
  | some k => (k : Int)
  | none => -1
/-- the search from file i on -/
def pickFrom (d id i : Nat) : Option Nat := ((reach d).filter (fun j => decide (i ≤ j))).find? (fun j => idOf j == id)
theorem pickFrom0 (d id : Nat) : pickFrom d id 0 = pick d id := by
  have e : (reach d).filter (fun j => decide (0 ≤ j)) = reach d := List.filter_eq_self.2 (fun _ _ => by simp)
  unfold pickFrom pick
  rw [e]
theorem pickFrom6 (d id : Nat) : pickFrom d id 6 = none := by
  unfold pickFrom reach
  split <;> simp
theorem find_skip {p : Nat → Bool} {i : Nat} (h : p i = false) : ∀ l : List Nat, (l.filter (fun j => decide (i + 1 ≤ j))).find? p = (l.filter (fun j => decide (i ≤ j))).find? p
  | [] => rfl
  | a :: l => by
    have ih := find_skip h l
    by_cases h1 : i + 1 ≤ a
    · have h2 : i ≤ a := by omega
      rw [List.filter_cons_of_pos (by simpa using h1), List.filter_cons_of_pos (by simpa using h2), List.find?_cons, List.find?_cons, ih]
    · by_cases h2 : i ≤ a
      · obtain rfl : a = i := by omega
        rw [List.filter_cons_of_neg (by simp), List.filter_cons_of_pos (by simp), List.find?_cons, h, ih]
      · rw [List.filter_cons_of_neg (by simpa using h1), List.filter_cons_of_neg (by simpa using h2), ih]
theorem pickFrom_ne {d id i : Nat} (h : ¬ id = idOf i) : pickFrom d id (i + 1) = pickFrom d id i :=
  find_skip (by simpa using fun e => h e.symm) _
theorem dir_cases {cur : Nat} (hc : cur < 6) : dirOf cur = 0 ∨ dirOf cur = 1 ∨ dirOf cur = 4 := by
  have h : cur = 0 ∨ cur = 1 ∨ cur = 2 ∨ cur = 3 ∨ cur = 4 ∨ cur = 5 := by omega
  rcases h with rfl | rfl | rfl | rfl | rfl | rfl <;> decide

/-- the three tables of the model -/
structure Tabs (W : World) (n : Nat) : Prop where
  i0 : W.cell? ⟨n, 0, none⟩ = some (.int .u16 16128)
  i1 : W.cell? ⟨n, 1, none⟩ = some (.int .u16 32528)
  i2 : W.cell? ⟨n, 2, none⟩ = some (.int .u16 28476)
  i3 : W.cell? ⟨n, 3, none⟩ = some (.int .u16 28483)
  i4 : W.cell? ⟨n, 4, none⟩ = some (.int .u16 32544)
  i5 : W.cell? ⟨n, 5, none⟩ = some (.int .u16 28472)
  p0 : W.cell? ⟨n + 1, 0, none⟩ = some (.int .i64 (-1))
  p1 : W.cell? ⟨n + 1, 1, none⟩ = some (.int .i64 0)
  p2 : W.cell? ⟨n + 1, 2, none⟩ = some (.int .i64 1)
  p3 : W.cell? ⟨n + 1, 3, none⟩ = some (.int .i64 1)
  p4 : W.cell? ⟨n + 1, 4, none⟩ = some (.int .i64 0)
  p5 : W.cell? ⟨n + 1, 5, none⟩ = some (.int .i64 4)
  e0 : W.cell? ⟨n + 2, 0, none⟩ = some (.bool false)
  e1 : W.cell? ⟨n + 2, 1, none⟩ = some (.bool false)
  e2 : W.cell? ⟨n + 2, 2, none⟩ = some (.bool true)
  e3 : W.cell? ⟨n + 2, 3, none⟩ = some (.bool true)
  e4 : W.cell? ⟨n + 2, 4, none⟩ = some (.bool false)
  e5 : W.cell? ⟨n + 2, 5, none⟩ = some (.bool true)
theorem Tabs.drewN {W : World} {n : Nat} (t : Tabs W n) (k : Nat) : Tabs (W.drewN k) n := ⟨t.i0, t.i1, t.i2, t.i3, t.i4, t.i5, t.p0, t.p1, t.p2, t.p3, t.p4, t.p5, t.e0, t.e1, t.e2, t.e3, t.e4, t.e5⟩

set_option maxHeartbeats 12800000 in
set_option maxRecDepth 100000 in
theorem model_any (cur id : Nat) (hc : cur < 6) (hid : id < 65536) (w : World) :
    Calls Ybaf.prog 6 #[.int .i64 (cur : Nat), .int .u16 (id : Nat)] w fun e w' => e = .returned (.int .i64 (ansOf (pick (dirOf cur) id))) ∧ Below w.heap.size w w' := by
  have HD := hide (dir_cases hc)
  go_enter Ybaf.func6, Ybaf.ntmps6
  go_upto_region 4 with fail
  obtain ⟨hsz, hbel, hb0, hb1, hb2⟩ := alloc3 w (Obj.cells #[.int .u16 16128, .int .u16 32528, .int .u16 28476, .int .u16 28483, .int .u16 32544, .int .u16 28472] 64) (Obj.cells #[.int .i64 (-1), .int .i64 0, .int .i64 1, .int .i64 1, .int .i64 0, .int .i64 4] 65) (Obj.cells #[.bool false, .bool false, .bool true, .bool true, .bool false, .bool true] 66)
  simp only [Nat.add_assoc, Nat.reduceAdd]
  generalize ((w.alloc (Obj.cells #[.int .u16 16128, .int .u16 32528, .int .u16 28476, .int .u16 28483, .int .u16 32544, .int .u16 28472] 64)).alloc (Obj.cells #[.int .i64 (-1), .int .i64 0, .int .i64 1, .int .i64 1, .int .i64 0, .int .i64 4] 65)).alloc (Obj.cells #[.bool false, .bool false, .bool true, .bool true, .bool false, .bool true] 66) = W at *
  have TB : Tabs W w.heap.size := by constructor <;> simp [World.cell?, hb0, hb1, hb2]
  clear hb0 hb1 hb2 hsz
  have hcc : cur = 0 ∨ cur = 1 ∨ cur = 2 ∨ cur = 3 ∨ cur = 4 ∨ cur = 5 := by omega
  have hx : (W.cell? ⟨w.heap.size + 2, cur, none⟩ = some (.bool true) ∧ W.cell? ⟨w.heap.size + 1, cur, none⟩ = some (.int .i64 (dirOf cur : Nat))) ∨ (W.cell? ⟨w.heap.size + 2, cur, none⟩ = some (.bool false) ∧ dirOf cur = cur) := by
    rcases hcc with rfl | rfl | rfl | rfl | rfl | rfl
    · exact .inr ⟨TB.e0, rfl⟩
    · exact .inr ⟨TB.e1, rfl⟩
    · exact .inl ⟨TB.e2, TB.p2⟩
    · exact .inl ⟨TB.e3, TB.p3⟩
    · exact .inr ⟨TB.e4, rfl⟩
    · exact .inl ⟨TB.e5, TB.p5⟩
  have HT := hide TB
  have ci : (cur : Int) < 6 := by omega
  clear TB hcc
  obtain ⟨d, hdd⟩ : ∃ d, d = dirOf cur := ⟨_, rfl⟩
  rw [← hdd] at hx HD
  have HDD := hide hdd
  clear hdd
  rcases hx with ⟨x1, x2⟩ | ⟨x1, rfl⟩
  all_goals
    go_upto_region 8 with fail
    clear x1
    try clear x2
    go_loopg [9] 6 (fun g s wr => ∃ i : Nat, s = .int .i64 (i : Nat) ∧ i ≤ 6 ∧ g = 6 - i ∧ Hid (Tabs wr w.heap.size) ∧ Below w.heap.size w wr ∧ Hid (pickFrom d id i = pick d id))
    case atStart => exact ⟨0, rfl, by omega, rfl, HT, hbel, pickFrom0 _ _⟩
    case round =>
      clear HT hbel
      obtain ⟨i, rfl, hi, hg, HT, hbel, H⟩ := hrel
      rcases HD.out with rfl | rfl | rfl
      · have hc : i = 0 ∨ i = 1 ∨ i = 2 ∨ i = 3 ∨ i = 4 ∨ i = 5 ∨ i = 6 := by omega
        rcases hc with rfl | rfl | rfl | rfl | rfl | rfl | rfl
        · have t1 := HT.out.i0
          by_cases hq : id = 16128
          · subst hq
            have t2 := HT.out.p0
            have t3 := HT.out.p0
            have t4 := HT.out.e0
            have t5 := HT.out.p0
            go_wp2_with fail
            go_ret
            exact ⟨congrArg (fun z => Ending.returned (Value.int .i64 (ansOf z))) (show some 0 = pick (dirOf _) 16128 by rw [← HDD.out]; rfl), hbel⟩
          · have hq1 : (((16128 : Nat) : Int) == (id : Int)) = false := by simpa using fun e => hq (by omega)
            have hq2 : ¬ (16128 : Int) = (id : Int) := fun e => hq (by omega)
            have H2 := hide ((pickFrom_ne (d := 0) (i := 0) hq).trans H.out)
            go_wp2_with fail
            go_roundg (6 - 1)
            case measure => omega
            case rel => exact ⟨1, rfl, by omega, rfl, HT, hbel, H2⟩
        · have t1 := HT.out.i1
          by_cases hq : id = 32528
          · subst hq
            have t2 := HT.out.p1
            have t3 := HT.out.p0
            have t4 := HT.out.e1
            have t5 := HT.out.p0
            go_wp2_with fail
            go_ret
            exact ⟨congrArg (fun z => Ending.returned (Value.int .i64 (ansOf z))) (show some 1 = pick (dirOf _) 32528 by rw [← HDD.out]; rfl), hbel⟩
          · have hq1 : (((32528 : Nat) : Int) == (id : Int)) = false := by simpa using fun e => hq (by omega)
            have hq2 : ¬ (32528 : Int) = (id : Int) := fun e => hq (by omega)
            have H2 := hide ((pickFrom_ne (d := 0) (i := 1) hq).trans H.out)
            go_wp2_with fail
            go_roundg (6 - 2)
            case measure => omega
            case rel => exact ⟨2, rfl, by omega, rfl, HT, hbel, H2⟩
        · have t1 := HT.out.i2
          by_cases hq : id = 28476
          · subst hq
            have t2 := HT.out.p2
            have t3 := HT.out.p0
            have t4 := HT.out.e2
            have t5 := HT.out.p0
            go_wp2_with fail
            go_roundg (6 - 3)
            case measure => omega
            case rel => exact ⟨3, rfl, by omega, rfl, HT, hbel, (show pickFrom 0 28476 3 = pick 0 28476 from rfl)⟩
          · have hq1 : (((28476 : Nat) : Int) == (id : Int)) = false := by simpa using fun e => hq (by omega)
            have hq2 : ¬ (28476 : Int) = (id : Int) := fun e => hq (by omega)
            have H2 := hide ((pickFrom_ne (d := 0) (i := 2) hq).trans H.out)
            go_wp2_with fail
            go_roundg (6 - 3)
            case measure => omega
            case rel => exact ⟨3, rfl, by omega, rfl, HT, hbel, H2⟩
        · have t1 := HT.out.i3
          by_cases hq : id = 28483
          · subst hq
            have t2 := HT.out.p3
            have t3 := HT.out.p0
            have t4 := HT.out.e3
            have t5 := HT.out.p0
            go_wp2_with fail
            go_roundg (6 - 4)
            case measure => omega
            case rel => exact ⟨4, rfl, by omega, rfl, HT, hbel, (show pickFrom 0 28483 4 = pick 0 28483 from rfl)⟩
          · have hq1 : (((28483 : Nat) : Int) == (id : Int)) = false := by simpa using fun e => hq (by omega)
            have hq2 : ¬ (28483 : Int) = (id : Int) := fun e => hq (by omega)
            have H2 := hide ((pickFrom_ne (d := 0) (i := 3) hq).trans H.out)
            go_wp2_with fail
            go_roundg (6 - 4)
            case measure => omega
            case rel => exact ⟨4, rfl, by omega, rfl, HT, hbel, H2⟩
        · have t1 := HT.out.i4
          by_cases hq : id = 32544
          · subst hq
            have t2 := HT.out.p4
            have t3 := HT.out.p0
            have t4 := HT.out.e4
            have t5 := HT.out.p0
            go_wp2_with fail
            go_ret
            exact ⟨congrArg (fun z => Ending.returned (Value.int .i64 (ansOf z))) (show some 4 = pick (dirOf _) 32544 by rw [← HDD.out]; rfl), hbel⟩
          · have hq1 : (((32544 : Nat) : Int) == (id : Int)) = false := by simpa using fun e => hq (by omega)
            have hq2 : ¬ (32544 : Int) = (id : Int) := fun e => hq (by omega)
            have H2 := hide ((pickFrom_ne (d := 0) (i := 4) hq).trans H.out)
            go_wp2_with fail
            go_roundg (6 - 5)
            case measure => omega
            case rel => exact ⟨5, rfl, by omega, rfl, HT, hbel, H2⟩
        · have t1 := HT.out.i5
          by_cases hq : id = 28472
          · subst hq
            have t2 := HT.out.p5
            have t3 := HT.out.p0
            have t4 := HT.out.e5
            have t5 := HT.out.p0
            go_wp2_with fail
            go_roundg (6 - 6)
            case measure => omega
            case rel => exact ⟨6, rfl, by omega, rfl, HT, hbel, (show pickFrom 0 28472 6 = pick 0 28472 from rfl)⟩
          · have hq1 : (((28472 : Nat) : Int) == (id : Int)) = false := by simpa using fun e => hq (by omega)
            have hq2 : ¬ (28472 : Int) = (id : Int) := fun e => hq (by omega)
            have H2 := hide ((pickFrom_ne (d := 0) (i := 5) hq).trans H.out)
            go_wp2_with fail
            go_roundg (6 - 6)
            case measure => omega
            case rel => exact ⟨6, rfl, by omega, rfl, HT, hbel, H2⟩
        · have H2 := hide ((pickFrom6 0 id).symm.trans H.out)
          go_wp2_with fail
          go_ret
          exact ⟨congrArg (fun z => Ending.returned (Value.int .i64 (ansOf z))) (show none = pick (dirOf _) id by rw [← HDD.out]; exact H2.out), hbel⟩
      · have hc : i = 0 ∨ i = 1 ∨ i = 2 ∨ i = 3 ∨ i = 4 ∨ i = 5 ∨ i = 6 := by omega
        rcases hc with rfl | rfl | rfl | rfl | rfl | rfl | rfl
        · have t1 := HT.out.i0
          by_cases hq : id = 16128
          · subst hq
            have t2 := HT.out.p0
            have t3 := HT.out.p1
            have t4 := HT.out.e0
            have t5 := HT.out.p0
            go_wp2_with fail
            go_ret
            exact ⟨congrArg (fun z => Ending.returned (Value.int .i64 (ansOf z))) (show some 0 = pick (dirOf _) 16128 by rw [← HDD.out]; rfl), hbel⟩
          · have hq1 : (((16128 : Nat) : Int) == (id : Int)) = false := by simpa using fun e => hq (by omega)
            have hq2 : ¬ (16128 : Int) = (id : Int) := fun e => hq (by omega)
            have H2 := hide ((pickFrom_ne (d := 1) (i := 0) hq).trans H.out)
            go_wp2_with fail
            go_roundg (6 - 1)
            case measure => omega
            case rel => exact ⟨1, rfl, by omega, rfl, HT, hbel, H2⟩
        · have t1 := HT.out.i1
          by_cases hq : id = 32528
          · subst hq
            have t2 := HT.out.p1
            have t3 := HT.out.p1
            have t4 := HT.out.e1
            have t5 := HT.out.p0
            go_wp2_with fail
            go_ret
            exact ⟨congrArg (fun z => Ending.returned (Value.int .i64 (ansOf z))) (show some 1 = pick (dirOf _) 32528 by rw [← HDD.out]; rfl), hbel⟩
          · have hq1 : (((32528 : Nat) : Int) == (id : Int)) = false := by simpa using fun e => hq (by omega)
            have hq2 : ¬ (32528 : Int) = (id : Int) := fun e => hq (by omega)
            have H2 := hide ((pickFrom_ne (d := 1) (i := 1) hq).trans H.out)
            go_wp2_with fail
            go_roundg (6 - 2)
            case measure => omega
            case rel => exact ⟨2, rfl, by omega, rfl, HT, hbel, H2⟩
        · have t1 := HT.out.i2
          by_cases hq : id = 28476
          · subst hq
            have t2 := HT.out.p2
            have t3 := HT.out.p1
            have t4 := HT.out.e2
            have t5 := HT.out.p0
            go_wp2_with fail
            go_ret
            exact ⟨congrArg (fun z => Ending.returned (Value.int .i64 (ansOf z))) (show some 2 = pick (dirOf _) 28476 by rw [← HDD.out]; rfl), hbel⟩
          · have hq1 : (((28476 : Nat) : Int) == (id : Int)) = false := by simpa using fun e => hq (by omega)
            have hq2 : ¬ (28476 : Int) = (id : Int) := fun e => hq (by omega)
            have H2 := hide ((pickFrom_ne (d := 1) (i := 2) hq).trans H.out)
            go_wp2_with fail
            go_roundg (6 - 3)
            case measure => omega
            case rel => exact ⟨3, rfl, by omega, rfl, HT, hbel, H2⟩
        · have t1 := HT.out.i3
          by_cases hq : id = 28483
          · subst hq
            have t2 := HT.out.p3
            have t3 := HT.out.p1
            have t4 := HT.out.e3
            have t5 := HT.out.p0
            go_wp2_with fail
            go_ret
            exact ⟨congrArg (fun z => Ending.returned (Value.int .i64 (ansOf z))) (show some 3 = pick (dirOf _) 28483 by rw [← HDD.out]; rfl), hbel⟩
          · have hq1 : (((28483 : Nat) : Int) == (id : Int)) = false := by simpa using fun e => hq (by omega)
            have hq2 : ¬ (28483 : Int) = (id : Int) := fun e => hq (by omega)
            have H2 := hide ((pickFrom_ne (d := 1) (i := 3) hq).trans H.out)
            go_wp2_with fail
            go_roundg (6 - 4)
            case measure => omega
            case rel => exact ⟨4, rfl, by omega, rfl, HT, hbel, H2⟩
        · have t1 := HT.out.i4
          by_cases hq : id = 32544
          · subst hq
            have t2 := HT.out.p4
            have t3 := HT.out.p1
            have t4 := HT.out.e4
            have t5 := HT.out.p0
            go_upto_region 13 with fail
            go_quiet (fail)
            go_wp2_with fail
            go_ret
            exact ⟨congrArg (fun z => Ending.returned (Value.int .i64 (ansOf z))) (show some 4 = pick (dirOf _) 32544 by rw [← HDD.out]; rfl), below_drewN hbel _⟩
          · have hq1 : (((32544 : Nat) : Int) == (id : Int)) = false := by simpa using fun e => hq (by omega)
            have hq2 : ¬ (32544 : Int) = (id : Int) := fun e => hq (by omega)
            have H2 := hide ((pickFrom_ne (d := 1) (i := 4) hq).trans H.out)
            go_wp2_with fail
            go_roundg (6 - 5)
            case measure => omega
            case rel => exact ⟨5, rfl, by omega, rfl, HT, hbel, H2⟩
        · have t1 := HT.out.i5
          by_cases hq : id = 28472
          · subst hq
            have t2 := HT.out.p5
            have t3 := HT.out.p1
            have t4 := HT.out.e5
            have t5 := HT.out.p0
            go_upto_region 13 with fail
            go_quiet (fail)
            go_wp2_with fail
            go_roundg (6 - 6)
            case measure => omega
            case rel => exact ⟨6, rfl, by omega, rfl, HT.out.drewN _, below_drewN hbel _, (show pickFrom 1 28472 6 = pick 1 28472 from rfl)⟩
          · have hq1 : (((28472 : Nat) : Int) == (id : Int)) = false := by simpa using fun e => hq (by omega)
            have hq2 : ¬ (28472 : Int) = (id : Int) := fun e => hq (by omega)
            have H2 := hide ((pickFrom_ne (d := 1) (i := 5) hq).trans H.out)
            go_wp2_with fail
            go_roundg (6 - 6)
            case measure => omega
            case rel => exact ⟨6, rfl, by omega, rfl, HT, hbel, H2⟩
        · have H2 := hide ((pickFrom6 1 id).symm.trans H.out)
          go_wp2_with fail
          go_ret
          exact ⟨congrArg (fun z => Ending.returned (Value.int .i64 (ansOf z))) (show none = pick (dirOf _) id by rw [← HDD.out]; exact H2.out), hbel⟩
      · have hc : i = 0 ∨ i = 1 ∨ i = 2 ∨ i = 3 ∨ i = 4 ∨ i = 5 ∨ i = 6 := by omega
        rcases hc with rfl | rfl | rfl | rfl | rfl | rfl | rfl
        · have t1 := HT.out.i0
          by_cases hq : id = 16128
          · subst hq
            have t2 := HT.out.p0
            have t3 := HT.out.p4
            have t4 := HT.out.e0
            have t5 := HT.out.p0
            go_wp2_with fail
            go_ret
            exact ⟨congrArg (fun z => Ending.returned (Value.int .i64 (ansOf z))) (show some 0 = pick (dirOf _) 16128 by rw [← HDD.out]; rfl), hbel⟩
          · have hq1 : (((16128 : Nat) : Int) == (id : Int)) = false := by simpa using fun e => hq (by omega)
            have hq2 : ¬ (16128 : Int) = (id : Int) := fun e => hq (by omega)
            have H2 := hide ((pickFrom_ne (d := 4) (i := 0) hq).trans H.out)
            go_wp2_with fail
            go_roundg (6 - 1)
            case measure => omega
            case rel => exact ⟨1, rfl, by omega, rfl, HT, hbel, H2⟩
        · have t1 := HT.out.i1
          by_cases hq : id = 32528
          · subst hq
            have t2 := HT.out.p1
            have t3 := HT.out.p4
            have t4 := HT.out.e1
            have t5 := HT.out.p0
            go_upto_region 13 with fail
            go_quiet (fail)
            go_wp2_with fail
            go_ret
            exact ⟨congrArg (fun z => Ending.returned (Value.int .i64 (ansOf z))) (show some 1 = pick (dirOf _) 32528 by rw [← HDD.out]; rfl), below_drewN hbel _⟩
          · have hq1 : (((32528 : Nat) : Int) == (id : Int)) = false := by simpa using fun e => hq (by omega)
            have hq2 : ¬ (32528 : Int) = (id : Int) := fun e => hq (by omega)
            have H2 := hide ((pickFrom_ne (d := 4) (i := 1) hq).trans H.out)
            go_wp2_with fail
            go_roundg (6 - 2)
            case measure => omega
            case rel => exact ⟨2, rfl, by omega, rfl, HT, hbel, H2⟩
        · have t1 := HT.out.i2
          by_cases hq : id = 28476
          · subst hq
            have t2 := HT.out.p2
            have t3 := HT.out.p4
            have t4 := HT.out.e2
            have t5 := HT.out.p0
            go_upto_region 13 with fail
            go_quiet (fail)
            go_wp2_with fail
            go_roundg (6 - 3)
            case measure => omega
            case rel => exact ⟨3, rfl, by omega, rfl, HT.out.drewN _, below_drewN hbel _, (show pickFrom 4 28476 3 = pick 4 28476 from rfl)⟩
          · have hq1 : (((28476 : Nat) : Int) == (id : Int)) = false := by simpa using fun e => hq (by omega)
            have hq2 : ¬ (28476 : Int) = (id : Int) := fun e => hq (by omega)
            have H2 := hide ((pickFrom_ne (d := 4) (i := 2) hq).trans H.out)
            go_wp2_with fail
            go_roundg (6 - 3)
            case measure => omega
            case rel => exact ⟨3, rfl, by omega, rfl, HT, hbel, H2⟩
        · have t1 := HT.out.i3
          by_cases hq : id = 28483
          · subst hq
            have t2 := HT.out.p3
            have t3 := HT.out.p4
            have t4 := HT.out.e3
            have t5 := HT.out.p0
            go_upto_region 13 with fail
            go_quiet (fail)
            go_wp2_with fail
            go_roundg (6 - 4)
            case measure => omega
            case rel => exact ⟨4, rfl, by omega, rfl, HT.out.drewN _, below_drewN hbel _, (show pickFrom 4 28483 4 = pick 4 28483 from rfl)⟩
          · have hq1 : (((28483 : Nat) : Int) == (id : Int)) = false := by simpa using fun e => hq (by omega)
            have hq2 : ¬ (28483 : Int) = (id : Int) := fun e => hq (by omega)
            have H2 := hide ((pickFrom_ne (d := 4) (i := 3) hq).trans H.out)
            go_wp2_with fail
            go_roundg (6 - 4)
            case measure => omega
            case rel => exact ⟨4, rfl, by omega, rfl, HT, hbel, H2⟩
        · have t1 := HT.out.i4
          by_cases hq : id = 32544
          · subst hq
            have t2 := HT.out.p4
            have t3 := HT.out.p4
            have t4 := HT.out.e4
            have t5 := HT.out.p0
            go_wp2_with fail
            go_ret
            exact ⟨congrArg (fun z => Ending.returned (Value.int .i64 (ansOf z))) (show some 4 = pick (dirOf _) 32544 by rw [← HDD.out]; rfl), hbel⟩
          · have hq1 : (((32544 : Nat) : Int) == (id : Int)) = false := by simpa using fun e => hq (by omega)
            have hq2 : ¬ (32544 : Int) = (id : Int) := fun e => hq (by omega)
            have H2 := hide ((pickFrom_ne (d := 4) (i := 4) hq).trans H.out)
            go_wp2_with fail
            go_roundg (6 - 5)
            case measure => omega
            case rel => exact ⟨5, rfl, by omega, rfl, HT, hbel, H2⟩
        · have t1 := HT.out.i5
          by_cases hq : id = 28472
          · subst hq
            have t2 := HT.out.p5
            have t3 := HT.out.p4
            have t4 := HT.out.e5
            have t5 := HT.out.p0
            go_wp2_with fail
            go_ret
            exact ⟨congrArg (fun z => Ending.returned (Value.int .i64 (ansOf z))) (show some 5 = pick (dirOf _) 28472 by rw [← HDD.out]; rfl), hbel⟩
          · have hq1 : (((28472 : Nat) : Int) == (id : Int)) = false := by simpa using fun e => hq (by omega)
            have hq2 : ¬ (28472 : Int) = (id : Int) := fun e => hq (by omega)
            have H2 := hide ((pickFrom_ne (d := 4) (i := 5) hq).trans H.out)
            go_wp2_with fail
            go_roundg (6 - 6)
            case measure => omega
            case rel => exact ⟨6, rfl, by omega, rfl, HT, hbel, H2⟩
        · have H2 := hide ((pickFrom6 4 id).symm.trans H.out)
          go_wp2_with fail
          go_ret
          exact ⟨congrArg (fun z => Ending.returned (Value.int .i64 (ansOf z))) (show none = pick (dirOf _) id by rw [← HDD.out]; exact H2.out), hbel⟩
end Go.Proofs.YbulkdcggFmt
