/- The walk of FnGrowSharesOnlyWhenRoomAndSettles. -/
import Derived.Test.Qxb6630342aGrow
import Derived.Deep.QuietTactic
import Derived.BigQuiet
import Derived.LaidEqlPtr
namespace Go.Proofs.Qxb6630342a.Grow
open Go.RowKit
set_option linter.unusedVariables false

theorem add_mk (b off j : Nat) : (⟨b, off, none⟩ : Addr).add j = ⟨b, off + j, none⟩ := by
  unfold Addr.add
  split
  · simp_all
  · rfl

theorem bytes_yes (ao : Option Addr) (n c : Nat) (m s l : Int) (w : World) (hn : n ≤ 1048576) :
    Calls Try.prog 8 #[.slice ao n c, .int .i64 m, .int .i64 s, .int .i64 l] w fun e w' => e = .returned (.bool true) ∧ w = w' := by
  have h : (n : Int) ≤ 1048576 := by omega
  go_enter Try.func8, Try.ntmps8
  go_wp2
  go_ret
  exact ⟨rfl, rfl⟩

theorem bytes_no (ao : Option Addr) (n c : Nat) (m s l : Int) (w : World) (hn : 1048576 < n) (hm : n ≤ maxLen) :
    Calls Try.prog 8 #[.slice ao n c, .int .i64 m, .int .i64 s, .int .i64 l] w fun e w' => e = .returned (.bool false) ∧ w = w' := by
  unfold maxLen at hm
  have h : 1048576 < (n : Int) := by omega
  go_enter Try.func8, Try.ntmps8
  go_wp2
  go_ret
  exact ⟨rfl, rfl⟩

theorem underlying27 : Try.prog.underlying 27 = some (.pointer 5) := by kernel_rfl

theorem neq_same (a : Addr) (w : World) : (binOp .neq 27 (.pointer (some a)) (.pointer (some a))).run Try.prog w = .ok (.bool false) w := by
  obtain ⟨j, hj, _, _, _⟩ := info_parts info5
  have h : ∀ d : Nat, (Op.equalIn (d + 1) 27 (.pointer (some a)) (.pointer (some a))).run Try.prog w = .ok true w := fun d => by
    simp [Op.equalIn, run_underlying underlying27, sizeOf, typeInfo, hj, run_sameAddr_same]
  simp only [binOp]
  simp [Op.equal, Op.maxDepth, h 9999]

theorem eql_other {g g' : Nat} {w : World} {ca cb : Array Value} (hne : g ≠ g') (ha : w.heap[g]? = some (.cells ca 5 (0, 0))) (hb : w.heap[g']? = some (.cells cb 5 (0, 0))) :
    (binOp .eql 27 (.pointer (some ⟨g, 0, none⟩)) (.pointer (some ⟨g', 0, none⟩))).run Try.prog w = .ok (.bool false) w := by
  obtain ⟨j, hj, _, hs, _⟩ := info_parts info5
  exact run_eql_ptr_other w underlying27 hj (by omega) (fun e => hne (congrArg Addr.block e)) ha hb

theorem Below.old {w w1 : World} (hb : Below w.heap.size w w1) {a : Addr} {v : Value} (h : w.cell? a = some v) : w1.cell? a = some v :=
  (hb.cell (World.block_lt_of_cell? w _ h)).trans h

theorem own_cell {w1 wr : World} {B g n c : Nat} {zs : List Int} (hown : w1.ownsRow B 5 1 (.slice (some ⟨g, 0, none⟩) n c) n (zs.map (Value.int .u8))) (hz : zs.length = n) (hbr : Below w1.heap.size w1 wr) {k : Nat} (hk : k < n) :
    wr.cell? ⟨g, k, none⟩ = some (.int .u8 (zs.getD k 0)) := by
  refine Below.old hbr ?_
  rw [hown.cellAt k (by omega), List.getElem?_map, List.getElem?_eq_getElem (by omega), List.getD_eq_getElem?_getD, List.getElem?_eq_getElem (by omega)]
  rfl

theorem src_of {w : World} {b off n : Nat} {zs : List Int} (hz : zs.length = n) (hcell : ∀ k, k < n → w.cell? ⟨b, off + k, none⟩ = some (.int .u8 (zs.getD k 0))) : Src w (some ⟨b, off, none⟩) zs := by
  intro _
  refine ⟨_, rfl, fun j a hj => ?_⟩
  have hlt : j < zs.length := by rcases Nat.lt_or_ge j zs.length with h | h; exact h; rw [List.getElem?_eq_none h] at hj; cases hj
  have := hcell j (by omega)
  rw [List.getD_eq_getElem?_getD, hj] at this
  rw [add_mk]; exact this

theorem src_own {w1 : World} {B g n c : Nat} {zs : List Int} (hown : w1.ownsRow B 5 1 (.slice (some ⟨g, 0, none⟩) n c) n (zs.map (Value.int .u8))) (hz : zs.length = n) : Src w1 (some ⟨g, 0, none⟩) zs :=
  src_of hz fun k hk => by have := own_cell hown hz (Below.refl _ _) hk; rw [Nat.zero_add]; exact this

theorem own_block {w1 : World} {B g n c : Nat} {xs : List Value} (hown : w1.ownsRow B 5 1 (.slice (some ⟨g, 0, none⟩) n c) n xs) : ∃ cur, w1.heap[g]? = some (.cells cur 5 (0, 0)) ∧ g < w1.heap.size := by
  rcases hown.2 with ⟨h', _⟩ | ⟨g', cap', cur, h', _, hg, _⟩
  · simp at h'
  · simp only [Value.slice.injEq, Option.some.injEq, Addr.mk.injEq, and_true, true_and] at h'
    obtain ⟨rfl, rfl⟩ := h'
    exact ⟨cur, hg, by rcases Nat.lt_or_ge g w1.heap.size with h | h; exact h; rw [Array.getElem?_eq_none h] at hg; cases hg⟩

theorem grow_any (ao : Option Addr) (n c m l : Nat) (zs : List Int) (w : World) (hz : zs.length = n) (hl : l ≤ 65536) (hnl : n + m ≤ l) (h : c < n + m) (hs : Src w ao zs) :
    ∃ R, n + m ≤ R ∧ R ≤ l ∧ Calls Try.prog 7 #[.slice ao n c, .int .i64 (m : Int), .int .i64 (l : Int)] w fun e w' => e = .returned (.slice (some ⟨w.heap.size, 0, none⟩) n R) ∧
      w'.ownsRow w.heap.size 5 1 (.slice (some ⟨w.heap.size, 0, none⟩) n R) n (zs.map (Value.int .u8)) ∧ Below w.heap.size w w' := by
  by_cases h1 : n + m < l / 16
  · by_cases h2 : 2 * c < n + m
    · exact ⟨n + m, Nat.le_refl _, hnl, grow_need ao n c m l zs w hz hl hnl h hs h1 h2⟩
    · exact ⟨2 * c, by omega, by omega, grow_twice ao n c m l zs w hz hl hnl h hs h1 (by omega)⟩
  · exact ⟨l, hnl, Nat.le_refl _, grow_limit ao n c m l zs w hz hl hnl h hs (by omega)⟩

theorem clone_none (a0 : Option Addr) (c : Nat) (w : World) (ha : a0 = none → c = 0) (hc : c ≤ 1048576) :
    Calls Try.prog 6 #[.slice a0 (0 : Nat) c] w fun e w' => ∃ ao, e = .returned (.slice ao 0 c) ∧ Below w.heap.size w w' := by
  cases a0 with
  | none => obtain rfl := ha rfl; exact (clone_nil w).mono fun e w' ⟨h1, h2⟩ => ⟨none, h1, h2 ▸ Below.refl _ _⟩
  | some x => exact (clone_some x 0 c [] w rfl (Nat.zero_le _) hc (fun h => by simp at h)).mono fun e w' ⟨h1, _, h2⟩ => ⟨_, h1, h2⟩

set_option maxRecDepth 100000 in
set_option maxHeartbeats 1000000 in
theorem shares_room (b off n c m s l : Nat) (zs : List Int) (w : World) (hz : zs.length = n) (h0 : 0 < n) (hnc : n ≤ c) (hc : c ≤ 1048576) (hl : l ≤ 65536) (hnl : n + m ≤ l) (hs : s ≤ m) (hr : n + m ≤ c)
    (hcell : ∀ k, k < n → w.cell? ⟨b, off + k, none⟩ = some (.int .u8 (zs.getD k 0))) :
    Calls Try.prog 4 #[.slice (some ⟨b, off, none⟩) n c, .int .i64 (m : Int), .int .i64 (s : Int), .int .i64 (l : Int)] w fun e w' => e = .returned (.bool true) ∧ Below w.heap.size w w' := by
  have hsrc : Hid (Src w (some ⟨b, off, none⟩) zs) := src_of hz hcell
  have HZ : Hid (zs.length = n) := hz
  have HC : Hid (∀ k, k < n → w.cell? ⟨b, off + k, none⟩ = some (.int .u8 (zs.getD k 0))) := hcell
  clear hcell hz
  have i1 : (n : Int) + (m : Int) ≤ (l : Int) := by omega
  have i2 : (s : Int) ≤ (m : Int) := by omega
  have i3 : (n : Int) + (m : Int) ≤ (c : Int) := by omega
  have i4 : (0 : Int) < (n : Int) := by omega
  have hne := neq_same
  go_enter Try.func4, Try.ntmps4
  go_wp2_with (first | (go_at_call 8; refine (bytes_yes _ _ _ _ _ _ _ (by omega)).mono ?_; rintro e w' ⟨rfl, rfl⟩))
  refine (clone_some _ _ _ zs _ HZ.out hnc hc hsrc.out).mono ?_
  rintro e w1 ⟨rfl, hown, hb⟩
  go_wp2_with (first | (go_at_call 7; refine (grow_room _ _ _ _ _ _ (by omega) (by omega) (by omega) (by omega)).mono ?_; rintro e w' ⟨rfl, rfl⟩))
  go_loopw [13] (fun i wr => ∃ k : Nat, k ≤ n ∧ i = .int .i64 k ∧ Below w1.heap.size w1 wr) (fun i _ => n - (intOf i).toNat)
  case atStart => exact ⟨0, Nat.zero_le _, rfl, Below.refl _ _⟩
  case round =>
    obtain ⟨k, hk, rfl, hbr⟩ := hrel
    by_cases hlt : k < n
    · have hg : wr.cell? ⟨w.heap.size, k, none⟩ = some (.int .u8 (zs.getD k 0)) := own_cell hown HZ.out hbr hlt
      have ht : wr.cell? ⟨b, off + k, none⟩ = some (.int .u8 (zs.getD k 0)) := Below.old (hb.trans (hbr.mono hb.size)) (HC.out k hlt)
      have j1 : (0 : Int) ≤ (k : Int) := by omega
      have j2 : (k : Int) < (n : Int) := by omega
      go_wp2
      go_quiet (fail)
      go_wp2
      go_roundw
      case rel => exact ⟨k + 1, by omega, by go_num, below_drewN hbr _⟩
      case measure => simp [intOf]; omega
    · have j2 : (n : Int) ≤ (k : Int) := by omega
      go_wp2_with fail
      go_quiet (fail)
      go_wp2_with (first | (go_at_call 7; refine (grow_room _ _ _ _ _ _ (by omega) (by omega) (by omega) (by omega)).mono ?_; rintro e w' ⟨rfl, rfl⟩))
      go_quiet (fail)
      go_wp2_with (first | (go_at_call 7; refine (grow_room _ _ _ _ _ _ (by omega) (by omega) (by omega) (by omega)).mono ?_; rintro e w' ⟨rfl, rfl⟩))
      go_quiet (fail)
      go_wp2
      go_ret
      exact ⟨rfl, below_drewN (below_drewN (hb.trans (hbr.mono hb.size)) _) _⟩

set_option maxRecDepth 100000 in
set_option maxHeartbeats 1000000 in
theorem shares_new (b off n c m s l : Nat) (zs : List Int) (w : World) (hz : zs.length = n) (h0 : 0 < n) (hnc : n ≤ c) (hc : c ≤ 1048576) (hl : l ≤ 65536) (hnl : n + m ≤ l) (hs : s ≤ m) (hr : c < n + m)
    (hcell : ∀ k, k < n → w.cell? ⟨b, off + k, none⟩ = some (.int .u8 (zs.getD k 0))) :
    Calls Try.prog 4 #[.slice (some ⟨b, off, none⟩) n c, .int .i64 (m : Int), .int .i64 (s : Int), .int .i64 (l : Int)] w fun e w' => e = .returned (.bool true) ∧ Below w.heap.size w w' := by
  have hsrc : Hid (Src w (some ⟨b, off, none⟩) zs) := src_of hz hcell
  have HZ : Hid (zs.length = n) := hz
  have HC : Hid (∀ k, k < n → w.cell? ⟨b, off + k, none⟩ = some (.int .u8 (zs.getD k 0))) := hcell
  clear hcell hz
  have i1 : (n : Int) + (m : Int) ≤ (l : Int) := by omega
  have i2 : (s : Int) ≤ (m : Int) := by omega
  have i3 : (c : Int) < (n : Int) + (m : Int) := by omega
  have i4 : (0 : Int) < (n : Int) := by omega
  have hne := neq_same
  go_enter Try.func4, Try.ntmps4
  go_wp2_with (first | (go_at_call 8; refine (bytes_yes _ _ _ _ _ _ _ (by omega)).mono ?_; rintro e w' ⟨rfl, rfl⟩))
  refine (clone_some _ _ _ zs _ HZ.out hnc hc hsrc.out).mono ?_
  rintro e w1 ⟨rfl, hown, hb⟩
  go_wp2_with fail
  obtain ⟨R, hR1, hR2, hgr⟩ := grow_any (some ⟨w.heap.size, 0, none⟩) n c m l zs w1 HZ.out hl hnl hr (src_own hown HZ.out)
  refine hgr.mono ?_
  clear hgr
  rintro e w2 ⟨rfl, hown2, hb2⟩
  have i5 : (n : Int) + (m : Int) ≤ (R : Int) := by omega
  have i6 : (R : Int) ≤ (l : Int) := by omega
  have hbb : Below w.heap.size w w2 := hb.trans (hb2.mono hb.size)
  obtain ⟨ca, hca, hga⟩ := own_block hown
  obtain ⟨cb, hcb, hgb⟩ := own_block hown2
  have HCA : Hid (w2.heap[w.heap.size]? = some (.cells ca 5 (0, 0))) := (hb2.block _ hga).trans hca
  have HCB : Hid (w2.heap[w1.heap.size]? = some (.cells cb 5 (0, 0))) := hcb
  clear hca hcb hown hb hb2
  go_wp2_with fail
  go_loopw [13] (fun i wr => ∃ k : Nat, k ≤ n ∧ i = .int .i64 k ∧ Below w2.heap.size w2 wr) (fun i _ => n - (intOf i).toNat)
  case atStart => exact ⟨0, Nat.zero_le _, rfl, Below.refl _ _⟩
  case round =>
    obtain ⟨k, hk, rfl, hbr⟩ := hrel
    by_cases hlt : k < n
    · have hg : wr.cell? ⟨w1.heap.size, k, none⟩ = some (.int .u8 (zs.getD k 0)) := own_cell hown2 HZ.out hbr hlt
      have ht : wr.cell? ⟨b, off + k, none⟩ = some (.int .u8 (zs.getD k 0)) := Below.old (hbb.trans (hbr.mono hbb.size)) (HC.out k hlt)
      have j1 : (0 : Int) ≤ (k : Int) := by omega
      have j2 : (k : Int) < (n : Int) := by omega
      go_wp2
      go_quiet (fail)
      go_wp2
      go_roundw
      case rel => exact ⟨k + 1, by omega, by go_num, below_drewN hbr _⟩
      case measure => simp [intOf]; omega
    · have j2 : (n : Int) ≤ (k : Int) := by omega
      have heo : ∀ q, (binOp .eql 27 (.pointer (some ⟨w1.heap.size, 0, none⟩)) (.pointer (some ⟨w.heap.size, 0, none⟩))).run Try.prog (wr.drewN q) = .ok (.bool false) (wr.drewN q) := fun q =>
        eql_other (by omega) ((hbr.block _ hgb).trans HCB.out) ((hbr.block _ (Nat.lt_trans hga hgb)).trans HCA.out)
      go_wp2_with fail
      go_quiet (fail)
      go_wp2_with (first | (go_at_call 7; refine (grow_room _ _ _ _ _ _ (by omega) (by omega) (by omega) (by omega)).mono ?_; rintro e w' ⟨rfl, rfl⟩))
      go_quiet (fail)
      go_wp2_with (first | (go_at_call 7; refine (grow_room _ _ _ _ _ _ (by omega) (by omega) (by omega) (by omega)).mono ?_; rintro e w' ⟨rfl, rfl⟩))
      go_quiet (fail)
      go_wp2
      go_ret
      exact ⟨rfl, below_drewN (below_drewN (hbb.trans (hbr.mono hbb.size)) _) _⟩

end Go.Proofs.Qxb6630342a.Grow
