/-
  THE WALKS of copyIndex.add and copyIndex.remove.
-/
import Derived.Test.YbulkdceqHeap
import Derived.Deep.LoopGhost
import Derived.BigQuiet
namespace Go.Proofs.Ybulkdceq
open Go.RowKit Go.Maps

set_option maxHeartbeats 800000 in
theorem add_any {w : World} {B RB n k : Nat} {hd nx : Nat → Option Nat} (s : St w B RB n k hd nx) (h i : Nat) (hh : h < 4) (hi : i < n) (hk : k < maxLen) :
    Calls Yba.prog 4 #[.map (some B), .int .u64 (h : Int), .pointer (some ⟨RB + i, 0, none⟩)] w fun e w' =>
      e = .returned (.tuple #[]) ∧ St w' B RB n (k + 1) (upd hd h (some i)) (upd nx i (hd h)) ∧ Kept B RB n w w' := by
  have hl := s.map.lookup hh
  have hn := s.next hi
  have hf := s.free (o := 12) hi
  have s1 := s.setNext hi (hd h)
  obtain ⟨w2, hrun, hm2, ht2⟩ := s1.map.store hh hk i
  rw [adr_some] at hrun
  have A1 : Hid (St w2 B RB n (k + 1) (upd hd h (some i)) (upd nx i (hd h))) := s1.mapKept hm2 ht2
  have A2 : Hid (Kept B RB n w w2) := ((Kept.refl B RB n w).setCell hi _).turned ht2
  clear s1 hm2 ht2 s
  go_enter Yba.func4, Yba.ntmps4
  go_wp2
  go_end0
  exact ⟨rfl, A1, A2⟩

/-- what 'remove' leaves -/
def Removed (w : World) (B RB n k : Nat) (hd nx : Nat → Option Nat) (h c : Nat) (L : List Nat) (w' : World) : Prop :=
  ∃ hd' nx', St w' B RB n (k + 1) hd' nx' ∧ Kept B RB n w w' ∧ IsChain nx' (hd' h) (L.filter (fun a => a ≠ c)) ∧ (∀ h', h' ≠ h → hd' h' = hd h') ∧ (∀ j, j ∉ L → nx' j = nx j) ∧ nx' c = none

set_option maxHeartbeats 800000 in
/-- the run is the head, and the only one -/
theorem remove_last {w : World} {B RB n k : Nat} {hd nx : Nat → Option Nat} (s : St w B RB n k hd nx) (h c : Nat) (hh : h < 4) (hc : c < n) (L : List Nat) (hL : IsChain nx (hd h) (c :: L)) (hn : (c :: L).Nodup) (he : nx c = none) :
    Calls Yba.prog 6 #[.map (some B), .int .u64 (h : Int), .pointer (some ⟨RB + c, 0, none⟩)] w fun e w' =>
      e = .returned (.tuple #[]) ∧ Removed w B RB n k hd nx h c (c :: L) w' := by
  have hl := s.map.lookup hh
  have hx := s.next hc
  obtain ⟨w2, hrun, hm2, ht2⟩ := s.map.drop hh 0
  have s2 := s.mapKept hm2 ht2
  have hx2 := s2.next hc
  have hf2 := s2.free (o := 12) hc
  have hch := chain_head hL hn
  rw [hch.1, adr_some] at hl
  rw [he, adr_none] at hx hx2
  have s3 := s2.setNext hc none
  rw [adr_none] at s3
  have A : Hid (Removed w B RB n k hd nx h c (c :: L) (w2.setCell ⟨RB + c, 12, none⟩ (.pointer none))) :=
    ⟨_, _, s3.mono (Nat.le_succ _), ((Kept.refl B RB n w).turned ht2).setCell hc _, by rw [upd_same]; have q := hch.2; rw [he] at q; exact q, fun h' e => upd_other _ _ _ e, fun j hj => upd_other _ _ _ (fun e => hj (by simp [e])), upd_same _ _ _⟩
  clear s3 s2 hch hL hn he hm2 ht2 s
  have hq := eql_same ⟨RB + c, 0, none⟩
  go_enter Yba.func6, Yba.ntmps6
  go_wp2
  go_end0
  exact ⟨rfl, A⟩

set_option maxHeartbeats 800000 in
/-- the run is the head, and others follow -/
theorem remove_first {w : World} {B RB n k : Nat} {hd nx : Nat → Option Nat} (s : St w B RB n k hd nx) (h c d : Nat) (hh : h < 4) (hc : c < n) (hk : k < maxLen) (L : List Nat) (hL : IsChain nx (hd h) (c :: L)) (hn : (c :: L).Nodup) (he : nx c = some d) :
    Calls Yba.prog 6 #[.map (some B), .int .u64 (h : Int), .pointer (some ⟨RB + c, 0, none⟩)] w fun e w' =>
      e = .returned (.tuple #[]) ∧ Removed w B RB n k hd nx h c (c :: L) w' := by
  have hl := s.map.lookup hh
  have hx := s.next hc
  obtain ⟨w2, hrun, hm2, ht2⟩ := s.map.store hh hk d
  have s2 := s.mapKept hm2 ht2
  have hx2 := s2.next hc
  have hf2 := s2.free (o := 12) hc
  have hch := chain_head hL hn
  rw [hch.1, adr_some] at hl
  rw [he, adr_some] at hx hx2
  rw [adr_some] at hrun
  have s3 := s2.setNext hc none
  rw [adr_none] at s3
  have A : Hid (Removed w B RB n k hd nx h c (c :: L) (w2.setCell ⟨RB + c, 12, none⟩ (.pointer none))) :=
    ⟨_, _, s3, ((Kept.refl B RB n w).turned ht2).setCell hc _, by rw [upd_same]; have q := hch.2; rw [he] at q; exact q, fun h' e => upd_other _ _ _ e, fun j hj => upd_other _ _ _ (fun e => hj (by simp [e])), upd_same _ _ _⟩
  clear s3 s2 hch hL hn he hm2 ht2 s
  have hq := eql_same ⟨RB + c, 0, none⟩
  go_enter Yba.func6, Yba.ntmps6
  go_wp2
  go_end0
  exact ⟨rfl, A⟩

set_option maxHeartbeats 1600000 in
/-- the run stands behind another -/
theorem remove_mid {w : World} {B RB n k : Nat} {hd nx : Nat → Option Nat} (s : St w B RB n k hd nx) (h c p0 : Nat) (hh : h < 4) (hc : c < n) (L : List Nat) (hL : IsChain nx (hd h) (p0 :: L)) (hn : (p0 :: L).Nodup) (hlt : ∀ a ∈ p0 :: L, a < n) (hne : p0 ≠ c) (hm : c ∈ L) :
    Calls Yba.prog 6 #[.map (some B), .int .u64 (h : Int), .pointer (some ⟨RB + c, 0, none⟩)] w fun e w' =>
      e = .returned (.tuple #[]) ∧ Removed w B RB n k hd nx h c (p0 :: L) w' := by
  have hl := s.map.lookup hh
  rw [hL.1, adr_some] at hl
  have hq0 := s.eql_other (hlt p0 (by simp)) hc hne
  have A0 : Hid (IsChain nx (hd h) (p0 :: L) ∧ (p0 :: L).Nodup ∧ (∀ a ∈ p0 :: L, a < n) ∧ c ∈ L ∧ St w B RB n k hd nx) := ⟨hL, hn, hlt, hm, s⟩
  clear hL hn hlt hm s
  go_enter Yba.func6, Yba.ntmps6
  go_wp2
  go_loopg [7] L.length (fun g p wr => wr = w ∧ ∃ pre q rest, p = .pointer (some ⟨RB + q, 0, none⟩) ∧ Hid (p0 :: L = pre ++ q :: rest ∧ IsChain nx (some q) (q :: rest) ∧ c ∈ rest ∧ rest.length = g))
  case atStart => 
    obtain ⟨hL, hn, hlt, hm, s⟩ := A0.out
    exact ⟨rfl, [], p0, L, rfl, rfl, ⟨rfl, hL.2⟩, hm, rfl⟩
  case round =>
    obtain ⟨rfl, pre, q, rest, rfl, A1⟩ := hrel
    obtain ⟨hL, hn, hlt, hm, s⟩ := A0.out
    obtain ⟨e1, e2, e3, e4⟩ := A1.out
    obtain ⟨r, rest', rfl⟩ : ∃ r rest', rest = r :: rest' := by
      cases rest with
      | nil => simp at e3
      | cons r rest' => exact ⟨r, rest', rfl⟩
    have hq : q < n := hlt q (by rw [e1]; simp)
    have hr : r < n := hlt r (by rw [e1]; simp)
    have hx := s.next hq
    have e5 : nx q = some r := e2.2.1
    rw [e5, adr_some] at hx
    by_cases hrc : r = c
    · subst hrc
      have hxc := s.next hr
      have hfq := s.free (o := 12) hq
      have s1 := s.setNext hq (nx r)
      have hfc := s1.free (o := 12) hr
      have hxc1 := s1.next hr
      have hnd : (pre ++ q :: r :: rest').Nodup := e1 ▸ hn
      have s2 := s1.setNext hr none
      rw [adr_none] at s2
      have A : Hid (Removed wr B RB n k hd nx h r (p0 :: L) ((wr.setCell ⟨RB + q, 12, none⟩ (.pointer (adr RB (nx r)))).setCell ⟨RB + r, 12, none⟩ (.pointer none))) := by
        refine ⟨_, _, s2.mono (Nat.le_succ _), ((Kept.refl B RB n wr).setCell hq _).setCell hr _, ?_, fun _ _ => rfl, fun j hj => ?_, upd_same _ _ _⟩
        · rw [e1] at hL ⊢
          exact chain_mid hL hnd
        · have j1 : j ≠ r := fun e => hj (by rw [e1, e]; simp)
          have j2 : j ≠ q := fun e => hj (by rw [e1, e]; simp)
          rw [upd_other _ _ _ j1, upd_other _ _ _ j2]
      clear s2 s1 s hL hn hlt hm e1 e2 e3 e4 e5 A0 A1 hnd
      have hqq := eql_same ⟨RB + r, 0, none⟩
      go_wp2
      go_end0
      exact ⟨rfl, A⟩
    · have hqo := s.eql_other hr hc hrc
      have A2 : Hid (p0 :: L = (pre ++ [q]) ++ r :: rest' ∧ IsChain nx (some r) (r :: rest') ∧ c ∈ rest' ∧ rest'.length < gk) := by
        refine ⟨by rw [e1]; simp, ⟨rfl, e2.2.2⟩, ?_, ?_⟩
        · rcases List.mem_cons.1 e3 with e | e
          · exact absurd e.symm hrc
          · exact e
        · rw [← e4]; simp
      clear s hL hn hlt hm e1 e2 e3 e4 e5 A1
      go_wp2
      go_roundg (rest'.length)
      case measure => exact A2.out.2.2.2
      case rel => exact ⟨rfl, _, r, rest', rfl, A2.out.1, A2.out.2.1, A2.out.2.2.1, rfl⟩

/-- copyIndex.remove, at a run that is filed. -/
theorem remove_any {w : World} {B RB n k : Nat} {hd nx : Nat → Option Nat} (s : St w B RB n k hd nx) (h c : Nat) (hh : h < 4) (hk : k < maxLen) (L : List Nat) (hL : IsChain nx (hd h) L) (hn : L.Nodup) (hlt : ∀ a ∈ L, a < n) (hm : c ∈ L) :
    Calls Yba.prog 6 #[.map (some B), .int .u64 (h : Int), .pointer (some ⟨RB + c, 0, none⟩)] w fun e w' =>
      e = .returned (.tuple #[]) ∧ Removed w B RB n k hd nx h c L w' := by
  have hc := hlt c hm
  cases L with
  | nil => simp at hm
  | cons p0 L =>
    by_cases e : p0 = c
    · subst e
      cases hx : nx p0 with
      | none => exact remove_last s h p0 hh hc L hL hn hx
      | some d => exact remove_first s h p0 d hh hc hk L hL hn hx
    · refine remove_mid s h c p0 hh hc L hL hn hlt e ?_
      rcases List.mem_cons.1 hm with e' | e'
      · exact absurd e'.symm e
      · exact e'
end Go.Proofs.Ybulkdceq
