/- The walk of FnGrowSharesOnlyWhenRoomAndSettles at an empty text. -/
import Derived.Test.Qxb6630342aShares
namespace Go.Proofs.Qxb6630342a.Grow
open Go.RowKit
set_option linter.unusedVariables false

theorem clone_zero (a0 : Option Addr) (n c : Nat) (w : World) (hn : n = 0) (ha : a0 = none → c = 0) (hc : c ≤ 1048576) :
    Calls Try.prog 6 #[.slice a0 n c] w fun e w' => ∃ ao, e = .returned (.slice ao n c) ∧ Below w.heap.size w w' := by
  subst hn; exact clone_none a0 c w ha hc

set_option maxRecDepth 100000 in
set_option maxHeartbeats 1000000 in
theorem shares_room0 (a0 : Option Addr) (n c m s l : Nat) (w : World) (h0 : n = 0) (ha : a0 = none → c = 0) (hc : c ≤ 1048576) (hl : l ≤ 65536) (hnl : n + m ≤ l) (hs : s ≤ m) (hr : n + m ≤ c) :
    Calls Try.prog 4 #[.slice a0 n c, .int .i64 (m : Int), .int .i64 (s : Int), .int .i64 (l : Int)] w fun e w' => e = .returned (.bool true) ∧ Below w.heap.size w w' := by
  have i1 : (n : Int) + (m : Int) ≤ (l : Int) := by omega
  have i2 : (s : Int) ≤ (m : Int) := by omega
  have i3 : (n : Int) + (m : Int) ≤ (c : Int) := by omega
  have i4 : (n : Int) ≤ 0 := by omega
  have i7 : decide ((0 : Int) < (n : Int)) = false := by simpa using i4
  have i8 : decide (0 < n) = false := by simp [h0]
  have HN : Hid (n = 0) := h0
  clear h0
  go_enter Try.func4, Try.ntmps4
  go_wp2_with (first | (go_at_call 8; refine (bytes_yes _ _ _ _ _ _ _ (by omega)).mono ?_; rintro e w' ⟨rfl, rfl⟩))
  refine (clone_zero _ _ _ _ HN.out ha hc).mono ?_
  rintro e w1 ⟨ao, rfl, hb⟩
  go_wp2_with (first | (go_at_call 7; refine (grow_room _ _ _ _ _ _ (by omega) (by omega) (by omega) (by omega)).mono ?_; rintro e w' ⟨rfl, rfl⟩))
  go_loopw [13] (fun i wr => ∃ k : Nat, k ≤ n ∧ i = .int .i64 k ∧ Below w1.heap.size w1 wr) (fun i _ => n - (intOf i).toNat)
  case atStart => exact ⟨0, Nat.zero_le _, rfl, Below.refl _ _⟩
  case round =>
    obtain ⟨k, hk, rfl, hbr⟩ := hrel
    by_cases hlt : k < n
    · omega
    · have j2 : (n : Int) ≤ (k : Int) := by omega
      go_wp2_with fail
      go_quiet (fail)
      go_wp2_with (first | (go_at_call 7; refine (grow_room _ _ _ _ _ _ (by omega) (by omega) (by omega) (by omega)).mono ?_; rintro e w' ⟨rfl, rfl⟩))
      go_quiet (fail)
      go_wp2_with (first | (go_at_call 7; refine (grow_room _ _ _ _ _ _ (by omega) (by omega) (by omega) (by omega)).mono ?_; rintro e w' ⟨rfl, rfl⟩))
      go_quiet (fail)
      go_wp2
      go_ret
      exact ⟨rfl, below_drewN (below_drewN (hb.trans (hbr.mono hb.size)) _) _⟩

set_option maxRecDepth 100000 in
set_option maxHeartbeats 1000000 in
theorem shares_new0 (a0 : Option Addr) (n c m s l : Nat) (w : World) (h0 : n = 0) (ha : a0 = none → c = 0) (hc : c ≤ 1048576) (hl : l ≤ 65536) (hnl : n + m ≤ l) (hs : s ≤ m) (hr : c < n + m) :
    Calls Try.prog 4 #[.slice a0 n c, .int .i64 (m : Int), .int .i64 (s : Int), .int .i64 (l : Int)] w fun e w' => e = .returned (.bool true) ∧ Below w.heap.size w w' := by
  have i1 : (n : Int) + (m : Int) ≤ (l : Int) := by omega
  have i2 : (s : Int) ≤ (m : Int) := by omega
  have i3 : (c : Int) < (n : Int) + (m : Int) := by omega
  have i4 : (n : Int) ≤ 0 := by omega
  have i7 : decide ((0 : Int) < (n : Int)) = false := by simpa using i4
  have i8 : decide (0 < n) = false := by simp [h0]
  have HN : Hid (n = 0) := h0
  clear h0
  go_enter Try.func4, Try.ntmps4
  go_wp2_with (first | (go_at_call 8; refine (bytes_yes _ _ _ _ _ _ _ (by omega)).mono ?_; rintro e w' ⟨rfl, rfl⟩))
  refine (clone_zero _ _ _ _ HN.out ha hc).mono ?_
  rintro e w1 ⟨ao, rfl, hb⟩
  go_wp2_with fail
  obtain ⟨R, hR1, hR2, hgr⟩ := grow_any ao n c m l [] w1 HN.out.symm hl hnl hr (fun h => by simp at h)
  refine hgr.mono ?_
  clear hgr
  rintro e w2 ⟨rfl, hown2, hb2⟩
  have i5 : (n : Int) + (m : Int) ≤ (R : Int) := by omega
  have i6 : (R : Int) ≤ (l : Int) := by omega
  have hbb : Below w.heap.size w w2 := hb.trans (hb2.mono hb.size)
  clear hown2 hb hb2
  go_wp2_with fail
  go_loopw [13] (fun i wr => ∃ k : Nat, k ≤ n ∧ i = .int .i64 k ∧ Below w2.heap.size w2 wr) (fun i _ => n - (intOf i).toNat)
  case atStart => exact ⟨0, Nat.zero_le _, rfl, Below.refl _ _⟩
  case round =>
    obtain ⟨k, hk, rfl, hbr⟩ := hrel
    by_cases hlt : k < n
    · omega
    · have j2 : (n : Int) ≤ (k : Int) := by omega
      go_wp2_with fail
      go_quiet (fail)
      go_wp2_with (first | (go_at_call 7; refine (grow_room _ _ _ _ _ _ (by omega) (by omega) (by omega) (by omega)).mono ?_; rintro e w' ⟨rfl, rfl⟩))
      go_quiet (fail)
      go_wp2_with (first | (go_at_call 7; refine (grow_room _ _ _ _ _ _ (by omega) (by omega) (by omega) (by omega)).mono ?_; rintro e w' ⟨rfl, rfl⟩))
      go_quiet (fail)
      go_wp2
      go_ret
      exact ⟨rfl, below_drewN (below_drewN (hbb.trans (hbr.mono hbb.size)) _) _⟩

end Go.Proofs.Qxb6630342a.Grow
