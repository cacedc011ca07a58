/-
  WHAT THE LISTED VARIABLES GIVE: the three handles; the witness: the heap that the door's own run leaves; an argument of array type opened.
-/
import Derived.Test.YbulkdcggDoorAddr
import Derived.Test.YbulkdcggDoorTie
import Derived.ChangeSame
import Derived.ChangeVars
import Derived.JoinedOf
import Derived.RowKit
import Derived.RowKitTokens
import Derived.LaidLaws
import Derived.LaidHandle
import Derived.LaidMore
import Derived.Lay
import Derived.Stop.LaidErr
import Derived.Stop.Joined
import Derived.OpenShut
import Derived.ChangeOld
namespace Go.Proofs.YbulkdcggDoor
open Go.ChangeShapes Go.WideShapes Go.ChangeAt Go.RowKit

theorem own : ownKnob Ybad.prog.godebug = none := by kernel_rfl
theorem laidOut : laidOutB Ybad.prog = true := by kernel_rfl
theorem g0 : (Ybad.prog.globals[0]?).map (·.type) = some 29 := by kernel_rfl
theorem g1 : (Ybad.prog.globals[1]?).map (·.type) = some 29 := by kernel_rfl
theorem g3 : (Ybad.prog.globals[3]?).map (·.type) = some 29 := by kernel_rfl
theorem n4 : Ybad.prog.globalNamed "net/netip.z4" = some 0 := by kernel_rfl
theorem n6 : Ybad.prog.globalNamed "net/netip.z6noz" = some 1 := by kernel_rfl
theorem n0 : Ybad.prog.globalNamed "net/netip.z0" = some 3 := by kernel_rfl
theorem s71 : Ybad.prog.cellsOf 71 = 2 := by kernel_rfl
theorem s27 : Ybad.prog.cellsOf 27 = 1 := by kernel_rfl

theorem hand_of {W : World} {fuel : Nat} {cs : List Value} {d : DataW Unit} {p : List MemPlace}
    (h : DataW.trod (fun _ => ()) Ybad.prog W 0 (fun _ => true) false fuel 29 cs = some (.agg [.ptr d], p)) :
    ∃ a q, cs = [.pointer (some a)] ∧ p = MemPlace.row a 2 ++ q := by
  obtain ⟨y0, n, hx, hl, hy⟩ := trod_struct1 Ybad.underlying29 h
  rw [s29] at hl
  obtain ⟨c, rfl⟩ : ∃ c, cs = [c] := by
    match cs, hl with
    | [c], _ => exact ⟨c, rfl⟩
  obtain ⟨d0, p0⟩ := y0
  simp only [Prod.mk.injEq, DataW.agg.injEq, List.cons.injEq, and_true] at hx
  obtain ⟨rfl, rfl⟩ := hx
  simp only [s27, List.drop_zero, List.take_succ_cons, List.take_zero] at hy
  obtain ⟨f2, a, cs', q, hv, _, _, hq⟩ := ptr_of_trod Ybad.underlying27 hy
  rw [s71] at hq
  exact ⟨a, q, hv, hq⟩

theorem nil_of {W : World} {fuel : Nat} {cs : List Value} {p : List MemPlace}
    (h : DataW.trod (fun _ => ()) Ybad.prog W 0 (fun _ => true) false fuel 29 cs = some (.agg [.nil], p)) :
    cs = [.pointer none] := by
  obtain ⟨y0, n, hx, hl, hy⟩ := trod_struct1 Ybad.underlying29 h
  rw [s29] at hl
  obtain ⟨c, rfl⟩ : ∃ c, cs = [c] := by
    match cs, hl with
    | [c], _ => exact ⟨c, rfl⟩
  obtain ⟨d0, p0⟩ := y0
  simp only [Prod.mk.injEq, DataW.agg.injEq, List.cons.injEq, and_true] at hx
  obtain ⟨rfl, rfl⟩ := hx
  simp only [s27, List.drop_zero, List.take_succ_cons, List.take_zero] at hy
  cases n with
  | zero => simp [DataW.trod] at hy
  | succ n =>
    cases c <;> simp [DataW.trod, Ybad.underlying27] at hy
    rename_i o
    cases o with
    | none => rfl
    | some a => simp [Option.bind_eq_some_iff] at hy

theorem zs_of {W : World} (h : laidMetH Ybad.prog Rows.lawS5180AVerifyRow.laid W) : ∃ p4 p6, Zs W W.heap.size p4 p6 := by
  have h' : laidMet Ybad.prog [("net/netip.z4", Rows.laid_net_netip_z4), ("net/netip.z6noz", Rows.laid_net_netip_z6noz), ("net/netip.z0", Rows.laid_net_netip_z0)] W := h
  obtain ⟨ps, hv, hnd, hrows⟩ := h'
  obtain ⟨k4, t4, c4, f4, q4, r4, hk4, ht4, hv4, hd4, hr4, rfl⟩ := hv
  obtain ⟨k6, t6, c6, f6, q6, r6, hk6, ht6, hv6, hd6, hr6, rfl⟩ := hr4
  obtain ⟨k0, t0, c0, f0, q0, r0, hk0, ht0, hv0, hd0, hr0, rfl⟩ := hr6
  obtain rfl := Option.some.inj (n4.symm.trans hk4)
  obtain rfl := Option.some.inj (n6.symm.trans hk6)
  obtain rfl := Option.some.inj (n0.symm.trans hk0)
  obtain rfl := Option.some.inj (g0.symm.trans ht4)
  obtain rfl := Option.some.inj (g1.symm.trans ht6)
  obtain rfl := Option.some.inj (g3.symm.trans ht0)
  obtain ⟨c4⟩ := c4
  obtain ⟨c6⟩ := c6
  obtain ⟨c0⟩ := c0
  obtain ⟨p4, x4, e4, rfl⟩ := hand_of hd4
  obtain ⟨p6, x6, e6, rfl⟩ := hand_of hd6
  have e0 := nil_of hd0
  simp only at e4 e6 e0
  subst e4 e6 e0
  have hc4 : W.cell? ⟨0, 0, none⟩ = some (.pointer (some p4)) := by simpa using World.var?_cell n4 hv4 0
  have hc6 : W.cell? ⟨1, 0, none⟩ = some (.pointer (some p6)) := by simpa using World.var?_cell n6 hv6 0
  have hc0 : W.cell? ⟨3, 0, none⟩ = some (.pointer none) := by simpa using World.var?_cell n0 hv0 0
  obtain ⟨hb4, _⟩ := hrows p4.block p4.off (by simp [MemPlace.row])
  obtain ⟨hb6, _⟩ := hrows p6.block p6.off (by simp [MemPlace.row])
  have lt : ∀ {b : Nat}, (∃ c t, W.heap[b]? = some (.cells c t (0, 0))) → b < W.heap.size := by
    rintro b ⟨c, t, hb⟩
    exact (Array.getElem?_eq_some_iff.1 hb).1
  obtain ⟨hb3, _⟩ := hrows 3 0 (by simp [MemPlace.row])
  refine ⟨p4, p6, hc4, hc6, hc0, ?_, hb4, hb6, lt hb4, lt hb6, lt hb3, Nat.le_refl _⟩
  rintro rfl
  exact (List.nodup_append.1 hnd).2.2 (.cell p4.block p4.off) (by simp [MemPlace.row]) (.cell p4.block p4.off) (by simp [MemPlace.row]) rfl

theorem door_met (os : Os) (args : Array Value) : laidMetH Ybad.prog Rows.lawS5180AVerifyRow.laid ((World.laidAll Ybad.prog os Rows.lawS5180AVerifyRow.laid).forCall (fun _ _ => 0) ⟨#[], args, []⟩).memory :=
  laidMet_laidAll _ (by kernel_rfl) (by kernel_rfl)

def byteOf : Value → UInt8
  | .int _ z => UInt8.ofNat z.toNat
  | _ => 0
/-- an argument that is an array of bytes -/
theorem open_bytes {H : Type} {enc : TypeId × Value → H} {W : World} {base n : Nat} {sp : Nat → Bool} {t : TypeId} {v : Value} {d : DataW H} {p : List MemPlace}
    (ht : Ybad.prog.underlying t = some (.array n 5)) (hc : Ybad.prog.cellsOf t = n) (hok : Value.okWide Ybad.prog W .any base t v) (h : DataW.Trod enc Ybad.prog W 0 sp true t v d p) :
    ∃ l : List UInt8, l.length = n ∧ v = .agg (l.map (fun b => Value.int .u8 (b.toNat : Int))).toArray := by
  unfold Value.okWide at hok
  rw [ht] at hok
  obtain ⟨cs, rfl, hsz, _⟩ := hok
  obtain ⟨fuel, hf⟩ := h
  obtain ⟨xs, m, rfl, _, hl, hx, hg⟩ := DataW.trod_array ht hf
  obtain ⟨cs⟩ := cs
  simp only [Value.cells] at hl hg
  rw [hc] at hl
  rw [s5] at hg
  refine ⟨cs.map byteOf, by simpa using hl, ?_⟩
  simp only [Value.agg.injEq, Array.mk.injEq]
  refine List.ext_getElem (by simp) fun i h1 h2 => ?_
  have hi : i < n := by omega
  have h3 := hg i hi
  rw [List.getElem?_eq_getElem (by omega)] at h3
  rw [Nat.mul_one] at h3
  have e : (cs.drop i).take 1 = [cs[i]] := by
    rw [List.drop_eq_getElem_cons h1]
    rfl
  rw [e] at h3
  simp only [List.getElem_map]
  generalize cs[i] = c at h3 ⊢
  cases m with
  | zero => simp [DataW.trod] at h3
  | succ m =>
    cases c <;> simp [DataW.trod, Ybad.underlying5] at h3
    rename_i k z
    obtain ⟨⟨rfl, hw⟩, _⟩ := h3
    have hb := bounds_u8 hw
    have e2 : (UInt8.ofNat z.toNat).toNat = z.toNat := by simp; omega
    simp only [byteOf, e2, Int.toNat_of_nonneg hb.1]

end Go.Proofs.YbulkdcggDoor
