import Derived.Test.YbulkdcggRows
import Derived.WalkKit
import Derived.ProofKit
import Derived.OpenShut
import Derived.Deep.DeepCutAuto
import Derived.Deep.CutBlock
import Derived.RowKit3
import Derived.LaidEqlPtr
namespace Go.Proofs.Ybulkdcgg
open Go.ChangeShapes Go.WideShapes Go.ChangeAt Go.RowKit

/-- which instruction 'zzs5180bins' answers -/
def insOf (k : Int) : Int :=
  if k = 0 then 164 else if k = 1 then 192 else if k = 2 then 176 else if k = 3 then 214 else if k = 4 then 178 else 220

set_option maxHeartbeats 400000 in
theorem bins_any (k : Int) (w : World) :
    Calls Yba.prog 4 #[.int .i64 k] w fun e w' => e = .returned (.int .u8 (insOf k)) ∧ w' = w := by
  unfold insOf
  go_enter Yba.func4, Yba.ntmps4
  go_wp2
  all_goals go_ret
  all_goals (refine ⟨?_, rfl⟩; simp_all)


/-- '==' and '!=' between a pointer and itself -/
theorem eql_same (a : Addr) (w : World) : (binOp .eql 23 (.pointer (some a)) (.pointer (some a))).run Yba.prog w = .ok (.bool true) w := by
  obtain ⟨j, hj⟩ : ∃ j, Yba.prog.info? 29 = some j := by
    have h : (Yba.prog.info? 29).isSome = true := by kernel_rfl
    exact Option.isSome_iff_exists.1 h
  exact run_eql_ptr_same w a Yba.underlying23 hj
theorem neq_same (a : Addr) (w : World) : (binOp .neq 23 (.pointer (some a)) (.pointer (some a))).run Yba.prog w = .ok (.bool false) w := by
  obtain ⟨j, hj⟩ : ∃ j, Yba.prog.info? 29 = some j := by
    have h : (Yba.prog.info? 29).isSome = true := by kernel_rfl
    exact Option.isSome_iff_exists.1 h
  have h : ∀ d : Nat, (Op.equalIn (d + 1) 23 (.pointer (some a)) (.pointer (some a))).run Yba.prog w = .ok true w := fun d => by
    simp [Op.equalIn, run_underlying Yba.underlying23, sizeOf, typeInfo, hj, run_sameAddr_same]
  simp only [binOp]
  simp [Op.equal, Op.maxDepth, h 9999]
attribute [local go_sem] eql_same neq_same

set_option maxHeartbeats 1600000 in
theorem cur_no (cb fb : Nat) (typ ins : Int) (w : World) (ht : ¬ typ = 4)
    (c2 : w.cell? ⟨cb, 3, none⟩ = some (.pointer (some ⟨fb, 0, none⟩)))
    (c3 : w.cell? ⟨fb, 1, none⟩ = some (.int .u8 typ)) :
    Calls Yba.prog 5 #[.pointer (some ⟨cb, 0, none⟩), .int .u8 ins] w fun e w' =>
      e = .returned (.tuple #[.pointer none, .int .u16 37888]) ∧ w' = w := by
  go_enter Yba.func5, Yba.ntmps5
  go_wp2
  all_goals go_ret2
  all_goals exact ⟨rfl, rfl⟩

set_option maxHeartbeats 1600000 in
theorem cur_bad (cb fb : Nat) (st ins : Int) (w : World) (hc : (ins = 178 ∧ ¬ st = 1) ∨ (ins = 220 ∧ ¬ st = 1) ∨ (¬ ins = 178 ∧ ¬ ins = 220 ∧ ¬ st = 0))
    (c2 : w.cell? ⟨cb, 3, none⟩ = some (.pointer (some ⟨fb, 0, none⟩)))
    (c3 : w.cell? ⟨fb, 1, none⟩ = some (.int .u8 4))
    (c4 : w.cell? ⟨fb, 4, none⟩ = some (.int .u8 st)) :
    Calls Yba.prog 5 #[.pointer (some ⟨cb, 0, none⟩), .int .u8 ins] w fun e w' =>
      e = .returned (.tuple #[.pointer none, .int .u16 37896]) ∧ w' = w := by
  rcases hc with ⟨rfl, hs⟩ | ⟨rfl, hs⟩ | ⟨h1, h2, hs⟩
  · go_enter Yba.func5, Yba.ntmps5
    go_wp2
    all_goals go_ret2
    all_goals exact ⟨rfl, rfl⟩
  · go_enter Yba.func5, Yba.ntmps5
    go_wp2
    all_goals go_ret2
    all_goals exact ⟨rfl, rfl⟩
  · have hb : (ins == 178 || ins == 220) = false := by simp [h1, h2]
    go_enter Yba.func5, Yba.ntmps5
    go_wp2
    all_goals go_ret2
    all_goals exact ⟨rfl, rfl⟩

set_option maxHeartbeats 1600000 in
theorem cur_ok (cb fb : Nat) (st ins : Int) (w : World) (hc : (ins = 178 ∧ st = 1) ∨ (ins = 220 ∧ st = 1) ∨ (¬ ins = 178 ∧ ¬ ins = 220 ∧ st = 0))
    (c2 : w.cell? ⟨cb, 3, none⟩ = some (.pointer (some ⟨fb, 0, none⟩)))
    (c3 : w.cell? ⟨fb, 1, none⟩ = some (.int .u8 4))
    (c4 : w.cell? ⟨fb, 4, none⟩ = some (.int .u8 st)) :
    Calls Yba.prog 5 #[.pointer (some ⟨cb, 0, none⟩), .int .u8 ins] w fun e w' =>
      e = .returned (.tuple #[.pointer (some ⟨fb, 0, none⟩), .int .u16 0]) ∧ w' = w := by
  rcases hc with ⟨rfl, hs⟩ | ⟨rfl, hs⟩ | ⟨h1, h2, hs⟩
  · subst hs
    go_enter Yba.func5, Yba.ntmps5
    go_wp2
    all_goals go_ret2
    all_goals exact ⟨rfl, rfl⟩
  · subst hs
    go_enter Yba.func5, Yba.ntmps5
    go_wp2
    all_goals go_ret2
    all_goals exact ⟨rfl, rfl⟩
  · subst hs
    have hb : (ins == 178 || ins == 220) = false := by simp [h1, h2]
    go_enter Yba.func5, Yba.ntmps5
    go_wp2
    all_goals go_ret2
    all_goals exact ⟨rfl, rfl⟩

set_option maxRecDepth 100000 in
set_option maxHeartbeats 4000000 in
theorem law_any (a0 a1 a2 a3 a4 : Int) (h0 : 0 ≤ a0) (h1 : a0 < 256) (h2 : 0 ≤ a1) (h3 : a1 < 256) (h4 : 0 ≤ a2) (h5 : a2 < 256) (h6 : 0 ≤ a3) (h7 : a3 < 256) (w : World) :
    Calls Yba.prog 3 #[.int .u8 a0, .int .u8 a1, .int .u8 a2, .int .u8 a3, .int .u8 a4] w fun e w' => e = .returned (.bool true) ∧ Grown w w' := by
  go_enter Yba.func3, Yba.ntmps3
  go_upto_block 0 with fail
  go_cut [11,24,26,28] from 21 to 30 (fun s _ _ _ wx => wx = w ∧ ∃ t : Int, 0 ≤ t ∧ t < 256 ∧ s = .int .u8 t)
  case first =>
    go_wp2
    all_goals go_meet
    all_goals (case rel => exact ⟨rfl, _, by omega, by omega, rfl⟩)
  case rest =>
    obtain ⟨rfl, t, ht0, ht1, rfl⟩ := hcut
    go_upto_if 35 with fail
    go_cut [12] from 21 to 37 (fun s wx => wx = wc ∧ ∃ t : Int, 0 ≤ t ∧ t < 256 ∧ s = .int .u8 t)
    case first =>
      go_wp2_with (go_at_call 4; refine (bins_any _ _).mono ?_; rintro e w' ⟨rfl, rfl⟩)
      all_goals go_meet
      all_goals (case rel => exact ⟨rfl, _, by first | (unfold insOf; repeat' split) <;> omega | omega, by first | (unfold insOf; repeat' split) <;> omega | omega, rfl⟩)
    case rest =>
      obtain ⟨rfl, ins, hi0, hi1, rfl⟩ := hcut
      by_cases hty : t = 4
      · subst hty
        have hc : ((ins = 178 ∧ a4 = 1) ∨ (ins = 220 ∧ a4 = 1) ∨ (¬ ins = 178 ∧ ¬ ins = 220 ∧ a4 = 0)) ∨ ((ins = 178 ∧ ¬ a4 = 1) ∨ (ins = 220 ∧ ¬ a4 = 1) ∨ (¬ ins = 178 ∧ ¬ ins = 220 ∧ ¬ a4 = 0)) := by omega
        rcases hc with (⟨rfl, hs⟩ | ⟨rfl, hs⟩ | ⟨g1, g2, hs⟩) | (⟨rfl, hs⟩ | ⟨rfl, hs⟩ | ⟨g1, g2, hs⟩)
        · subst hs
          go_wp2_with fail
          refine (cur_ok _ wc.heap.size 1 _ _ (by omega) ?_ ?_ ?_).mono ?_
          · go_simp
          · go_simp
          · go_simp
          rintro e w' ⟨rfl, rfl⟩
          go_wp2
          go_ret
          exact ⟨rfl, by repeat (first | exact Grown.refl _ | apply Grown.drew | apply Grown.alloc)⟩
        · subst hs
          go_wp2_with fail
          refine (cur_ok _ wc.heap.size 1 _ _ (by omega) ?_ ?_ ?_).mono ?_
          · go_simp
          · go_simp
          · go_simp
          rintro e w' ⟨rfl, rfl⟩
          go_wp2
          go_ret
          exact ⟨rfl, by repeat (first | exact Grown.refl _ | apply Grown.drew | apply Grown.alloc)⟩
        · subst hs
          have hb : (ins == 178 || ins == 220) = false := by simp [g1, g2]
          go_wp2_with fail
          refine (cur_ok _ wc.heap.size 0 _ _ (by omega) ?_ ?_ ?_).mono ?_
          · go_simp
          · go_simp
          · go_simp
          rintro e w' ⟨rfl, rfl⟩
          go_wp2
          go_ret
          exact ⟨rfl, by repeat (first | exact Grown.refl _ | apply Grown.drew | apply Grown.alloc)⟩
        · go_wp2_with fail
          refine (cur_bad _ wc.heap.size a4 _ _ (by omega) ?_ ?_ ?_).mono ?_
          · go_simp
          · go_simp
          · go_simp
          rintro e w' ⟨rfl, rfl⟩
          go_wp2
          go_ret
          exact ⟨rfl, by repeat (first | exact Grown.refl _ | apply Grown.drew | apply Grown.alloc)⟩
        · go_wp2_with fail
          refine (cur_bad _ wc.heap.size a4 _ _ (by omega) ?_ ?_ ?_).mono ?_
          · go_simp
          · go_simp
          · go_simp
          rintro e w' ⟨rfl, rfl⟩
          go_wp2
          go_ret
          exact ⟨rfl, by repeat (first | exact Grown.refl _ | apply Grown.drew | apply Grown.alloc)⟩
        · have hb : (ins == 178 || ins == 220) = false := by simp [g1, g2]
          go_wp2_with fail
          refine (cur_bad _ wc.heap.size a4 _ _ (by omega) ?_ ?_ ?_).mono ?_
          · go_simp
          · go_simp
          · go_simp
          rintro e w' ⟨rfl, rfl⟩
          go_wp2
          go_ret
          exact ⟨rfl, by repeat (first | exact Grown.refl _ | apply Grown.drew | apply Grown.alloc)⟩
      · go_wp2_with fail
        refine (cur_no _ wc.heap.size t _ _ hty ?_ ?_).mono ?_
        · go_simp
        · go_simp
        rintro e w' ⟨rfl, rfl⟩
        go_wp2
        all_goals go_ret
        all_goals exact ⟨rfl, by repeat (first | exact Grown.refl _ | apply Grown.drew | apply Grown.alloc)⟩
end Go.Proofs.Ybulkdcgg
