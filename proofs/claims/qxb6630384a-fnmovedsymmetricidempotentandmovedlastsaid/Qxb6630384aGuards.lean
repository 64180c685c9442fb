/- The two guards of this seat's laws, which only bound the lengths. -/
import Derived.Test.Qxb6630384aHas
namespace Go.Proofs.Qxb6630384a.Moved
open Go.RowKit
set_option linter.unusedVariables false

/-- Some bool comes back; where it is true the three lengths are bounded. -/
def Bounded (n0 n1 n2 : Nat) (w w' : World) (e : Ending) : Prop := ∃ b : Bool, e = .returned (.bool b) ∧ w = w' ∧ (b = true → n0 ≤ 1048576 ∧ n1 ≤ 1048576 ∧ n2 ≤ 1048576)

/-- Some bool comes back. -/
def SomeBool (w w' : World) (e : Ending) : Prop := ∃ b : Bool, e = .returned (.bool b) ∧ w = w' ∧ (b = true → True)

set_option maxRecDepth 100000 in
set_option maxHeartbeats 2000000 in
theorem bytes5_any (a0 a1 a2 : Option Addr) (n0 c0 n1 c1 n2 c2 : Nat) (s0 s1 s2 : List ByteArray) (w : World) (h0 : Str w a0 n0 s0) (h1 : Str w a1 n1 s1) (h2 : Str w a2 n2 s2) :
    Calls Try.prog 5 #[.slice a0 n0 c0, .slice a1 n1 c1, .slice a2 n2 c2] w fun e w' => Bounded n0 n1 n2 w w' e := by
  have q0 := h0.2.1
  have H0 : Hid (Str w a0 n0 s0) := h0
  have q1 := h1.2.1
  have H1 : Hid (Str w a1 n1 s1) := h1
  have q2 := h2.2.1
  have H2 : Hid (Str w a2 n2 s2) := h2
  clear h0 h1 h2
  by_cases g0 : (1048576 : Int) < (n0 : Int)
  · go_enter Try.func5, Try.ntmps5
    go_wp2
    go_ret
    exact ⟨false, rfl, rfl, fun h => by cases h⟩
  go_enter Try.func5, Try.ntmps5
  go_wp2_with fail
  go_loop [7, 8] (fun t i => ∃ k tt : Nat, k ≤ n0 ∧ i = .int .i64 k ∧ t = .int .i64 tt ∧ tt ≤ 1048576) (fun _ i => n0 - (intOf i).toNat)
  case atStart => exact ⟨0, n0, Nat.zero_le _, rfl, by go_num, by omega⟩
  case round =>
    obtain ⟨k0, t0, hk0, rfl, rfl, ht0⟩ := hrel
    by_cases hlt0 : k0 < n0
    · have j1 : (k0 : Int) < (n0 : Int) := by omega
      obtain ⟨b, off, hab, hcl⟩ := H0.out.2.2.1 k0 hlt0
      have hix := idx22 a0 n0 c0 k0 b off hab hlt0
      obtain ⟨x, hx⟩ : ∃ x, x = s0.getD k0 ByteArray.empty := ⟨_, rfl⟩
      have hxs : x.size ≤ 9223372036854775807 := by rw [hx]; exact H0.out.2.2.2 _ (getD_mem (by rw [H0.out.1]; exact hlt0))
      rw [← hx] at hcl
      clear hab hx
      by_cases g1 : (1048576 : Int) < (x.size : Int)
      · go_wp2
        go_ret
        exact ⟨false, rfl, rfl, fun h => by cases h⟩
      by_cases g2 : (1048576 : Int) < (t0 : Int) + (x.size : Int)
      · go_wp2
        go_ret
        exact ⟨false, rfl, rfl, fun h => by cases h⟩
      · go_wp2
        go_round
        case rel => exact ⟨k0 + 1, t0 + x.size, by omega, by go_num, by go_num, by omega⟩
        case measure => simp [intOf]; omega
    · have j1 : (n0 : Int) ≤ (k0 : Int) := by omega
      by_cases g1 : (1048576 : Int) < (n1 : Int)
      · go_wp2
        go_ret
        exact ⟨false, rfl, rfl, fun h => by cases h⟩
      by_cases g1' : (1048576 : Int) < (t0 : Int) + (n1 : Int)
      · go_wp2
        go_ret
        exact ⟨false, rfl, rfl, fun h => by cases h⟩
      go_wp2_with fail
      go_loop [7, 9] (fun t i => ∃ k tt : Nat, k ≤ n1 ∧ i = .int .i64 k ∧ t = .int .i64 tt ∧ tt ≤ 1048576) (fun _ i => n1 - (intOf i).toNat)
      case atStart => exact ⟨0, t0 + n1, Nat.zero_le _, rfl, by go_num, by omega⟩
      case round =>
        obtain ⟨k1, t1, hk1, rfl, rfl, ht1⟩ := hrel
        by_cases hlt1 : k1 < n1
        · have j1 : (k1 : Int) < (n1 : Int) := by omega
          obtain ⟨b, off, hab, hcl⟩ := H1.out.2.2.1 k1 hlt1
          have hix := idx22 a1 n1 c1 k1 b off hab hlt1
          obtain ⟨x, hx⟩ : ∃ x, x = s1.getD k1 ByteArray.empty := ⟨_, rfl⟩
          have hxs : x.size ≤ 9223372036854775807 := by rw [hx]; exact H1.out.2.2.2 _ (getD_mem (by rw [H1.out.1]; exact hlt1))
          rw [← hx] at hcl
          clear hab hx
          by_cases g1 : (1048576 : Int) < (x.size : Int)
          · go_wp2
            go_ret
            exact ⟨false, rfl, rfl, fun h => by cases h⟩
          by_cases g2 : (1048576 : Int) < (t1 : Int) + (x.size : Int)
          · go_wp2
            go_ret
            exact ⟨false, rfl, rfl, fun h => by cases h⟩
          · go_wp2
            go_round
            case rel => exact ⟨k1 + 1, t1 + x.size, by omega, by go_num, by go_num, by omega⟩
            case measure => simp [intOf]; omega
        · have j1 : (n1 : Int) ≤ (k1 : Int) := by omega
          by_cases g2 : (1048576 : Int) < (n2 : Int)
          · go_wp2
            go_ret
            exact ⟨false, rfl, rfl, fun h => by cases h⟩
          by_cases g2' : (1048576 : Int) < (t1 : Int) + (n2 : Int)
          · go_wp2
            go_ret
            exact ⟨false, rfl, rfl, fun h => by cases h⟩
          go_wp2_with fail
          go_loop [7, 10] (fun t i => ∃ k tt : Nat, k ≤ n2 ∧ i = .int .i64 k ∧ t = .int .i64 tt ∧ tt ≤ 1048576) (fun _ i => n2 - (intOf i).toNat)
          case atStart => exact ⟨0, t1 + n2, Nat.zero_le _, rfl, by go_num, by omega⟩
          case round =>
            obtain ⟨k2, t2, hk2, rfl, rfl, ht2⟩ := hrel
            by_cases hlt2 : k2 < n2
            · have j1 : (k2 : Int) < (n2 : Int) := by omega
              obtain ⟨b, off, hab, hcl⟩ := H2.out.2.2.1 k2 hlt2
              have hix := idx22 a2 n2 c2 k2 b off hab hlt2
              obtain ⟨x, hx⟩ : ∃ x, x = s2.getD k2 ByteArray.empty := ⟨_, rfl⟩
              have hxs : x.size ≤ 9223372036854775807 := by rw [hx]; exact H2.out.2.2.2 _ (getD_mem (by rw [H2.out.1]; exact hlt2))
              rw [← hx] at hcl
              clear hab hx
              by_cases g1 : (1048576 : Int) < (x.size : Int)
              · go_wp2
                go_ret
                exact ⟨false, rfl, rfl, fun h => by cases h⟩
              by_cases g2 : (1048576 : Int) < (t2 : Int) + (x.size : Int)
              · go_wp2
                go_ret
                exact ⟨false, rfl, rfl, fun h => by cases h⟩
              · go_wp2
                go_round
                case rel => exact ⟨k2 + 1, t2 + x.size, by omega, by go_num, by go_num, by omega⟩
                case measure => simp [intOf]; omega
            · have j1 : (n2 : Int) ≤ (k2 : Int) := by omega
              go_wp2
              go_ret
              exact ⟨true, rfl, rfl, fun _ => ⟨by omega, by omega, by omega⟩⟩

set_option maxRecDepth 100000 in
set_option maxHeartbeats 2000000 in
theorem bytes9_any (a0 a1 a2 : Option Addr) (n0 c0 n1 c1 n2 c2 : Nat) (s0 s1 s2 : List ByteArray) (w : World) (h0 : Str w a0 n0 s0) (h1 : Str w a1 n1 s1) (h2 : Str w a2 n2 s2) :
    Calls Try.prog 9 #[.slice a0 n0 c0, .slice a1 n1 c1, .slice a2 n2 c2] w fun e w' => Bounded n0 n1 n2 w w' e := by
  have q0 := h0.2.1
  have H0 : Hid (Str w a0 n0 s0) := h0
  have q1 := h1.2.1
  have H1 : Hid (Str w a1 n1 s1) := h1
  have q2 := h2.2.1
  have H2 : Hid (Str w a2 n2 s2) := h2
  clear h0 h1 h2
  by_cases g0 : (1048576 : Int) < (n0 : Int)
  · go_enter Try.func9, Try.ntmps9
    go_wp2
    go_ret
    exact ⟨false, rfl, rfl, fun h => by cases h⟩
  go_enter Try.func9, Try.ntmps9
  go_wp2_with fail
  go_loop [7, 8] (fun t i => ∃ k tt : Nat, k ≤ n0 ∧ i = .int .i64 k ∧ t = .int .i64 tt ∧ tt ≤ 1048576) (fun _ i => n0 - (intOf i).toNat)
  case atStart => exact ⟨0, n0, Nat.zero_le _, rfl, by go_num, by omega⟩
  case round =>
    obtain ⟨k0, t0, hk0, rfl, rfl, ht0⟩ := hrel
    by_cases hlt0 : k0 < n0
    · have j1 : (k0 : Int) < (n0 : Int) := by omega
      obtain ⟨b, off, hab, hcl⟩ := H0.out.2.2.1 k0 hlt0
      have hix := idx22 a0 n0 c0 k0 b off hab hlt0
      obtain ⟨x, hx⟩ : ∃ x, x = s0.getD k0 ByteArray.empty := ⟨_, rfl⟩
      have hxs : x.size ≤ 9223372036854775807 := by rw [hx]; exact H0.out.2.2.2 _ (getD_mem (by rw [H0.out.1]; exact hlt0))
      rw [← hx] at hcl
      clear hab hx
      by_cases g1 : (1048576 : Int) < (x.size : Int)
      · go_wp2
        go_ret
        exact ⟨false, rfl, rfl, fun h => by cases h⟩
      by_cases g2 : (1048576 : Int) < (t0 : Int) + (x.size : Int)
      · go_wp2
        go_ret
        exact ⟨false, rfl, rfl, fun h => by cases h⟩
      · go_wp2
        go_round
        case rel => exact ⟨k0 + 1, t0 + x.size, by omega, by go_num, by go_num, by omega⟩
        case measure => simp [intOf]; omega
    · have j1 : (n0 : Int) ≤ (k0 : Int) := by omega
      by_cases g1 : (1048576 : Int) < (n1 : Int)
      · go_wp2
        go_ret
        exact ⟨false, rfl, rfl, fun h => by cases h⟩
      by_cases g1' : (1048576 : Int) < (t0 : Int) + (n1 : Int)
      · go_wp2
        go_ret
        exact ⟨false, rfl, rfl, fun h => by cases h⟩
      go_wp2_with fail
      go_loop [7, 9] (fun t i => ∃ k tt : Nat, k ≤ n1 ∧ i = .int .i64 k ∧ t = .int .i64 tt ∧ tt ≤ 1048576) (fun _ i => n1 - (intOf i).toNat)
      case atStart => exact ⟨0, t0 + n1, Nat.zero_le _, rfl, by go_num, by omega⟩
      case round =>
        obtain ⟨k1, t1, hk1, rfl, rfl, ht1⟩ := hrel
        by_cases hlt1 : k1 < n1
        · have j1 : (k1 : Int) < (n1 : Int) := by omega
          obtain ⟨b, off, hab, hcl⟩ := H1.out.2.2.1 k1 hlt1
          have hix := idx22 a1 n1 c1 k1 b off hab hlt1
          obtain ⟨x, hx⟩ : ∃ x, x = s1.getD k1 ByteArray.empty := ⟨_, rfl⟩
          have hxs : x.size ≤ 9223372036854775807 := by rw [hx]; exact H1.out.2.2.2 _ (getD_mem (by rw [H1.out.1]; exact hlt1))
          rw [← hx] at hcl
          clear hab hx
          by_cases g1 : (1048576 : Int) < (x.size : Int)
          · go_wp2
            go_ret
            exact ⟨false, rfl, rfl, fun h => by cases h⟩
          by_cases g2 : (1048576 : Int) < (t1 : Int) + (x.size : Int)
          · go_wp2
            go_ret
            exact ⟨false, rfl, rfl, fun h => by cases h⟩
          · go_wp2
            go_round
            case rel => exact ⟨k1 + 1, t1 + x.size, by omega, by go_num, by go_num, by omega⟩
            case measure => simp [intOf]; omega
        · have j1 : (n1 : Int) ≤ (k1 : Int) := by omega
          by_cases g2 : (1048576 : Int) < (n2 : Int)
          · go_wp2
            go_ret
            exact ⟨false, rfl, rfl, fun h => by cases h⟩
          by_cases g2' : (1048576 : Int) < (t1 : Int) + (n2 : Int)
          · go_wp2
            go_ret
            exact ⟨false, rfl, rfl, fun h => by cases h⟩
          go_wp2_with fail
          go_loop [7, 10] (fun t i => ∃ k tt : Nat, k ≤ n2 ∧ i = .int .i64 k ∧ t = .int .i64 tt ∧ tt ≤ 1048576) (fun _ i => n2 - (intOf i).toNat)
          case atStart => exact ⟨0, t1 + n2, Nat.zero_le _, rfl, by go_num, by omega⟩
          case round =>
            obtain ⟨k2, t2, hk2, rfl, rfl, ht2⟩ := hrel
            by_cases hlt2 : k2 < n2
            · have j1 : (k2 : Int) < (n2 : Int) := by omega
              obtain ⟨b, off, hab, hcl⟩ := H2.out.2.2.1 k2 hlt2
              have hix := idx22 a2 n2 c2 k2 b off hab hlt2
              obtain ⟨x, hx⟩ : ∃ x, x = s2.getD k2 ByteArray.empty := ⟨_, rfl⟩
              have hxs : x.size ≤ 9223372036854775807 := by rw [hx]; exact H2.out.2.2.2 _ (getD_mem (by rw [H2.out.1]; exact hlt2))
              rw [← hx] at hcl
              clear hab hx
              by_cases g1 : (1048576 : Int) < (x.size : Int)
              · go_wp2
                go_ret
                exact ⟨false, rfl, rfl, fun h => by cases h⟩
              by_cases g2 : (1048576 : Int) < (t2 : Int) + (x.size : Int)
              · go_wp2
                go_ret
                exact ⟨false, rfl, rfl, fun h => by cases h⟩
              · go_wp2
                go_round
                case rel => exact ⟨k2 + 1, t2 + x.size, by omega, by go_num, by go_num, by omega⟩
                case measure => simp [intOf]; omega
            · have j1 : (n2 : Int) ≤ (k2 : Int) := by omega
              go_wp2
              go_ret
              exact ⟨true, rfl, rfl, fun _ => ⟨by omega, by omega, by omega⟩⟩

set_option maxRecDepth 100000 in
set_option maxHeartbeats 2000000 in
theorem within_any (a0 a1 a2 : Option Addr) (n0 c0 n1 c1 n2 c2 : Nat) (s0 s1 s2 : List ByteArray) (w : World) (h0 : Str w a0 n0 s0) (h1 : Str w a1 n1 s1) (h2 : Str w a2 n2 s2) :
    Calls Try.prog 6 #[.slice a0 n0 c0, .slice a1 n1 c1, .slice a2 n2 c2] w fun e w' => SomeBool w w' e := by
  have q0 := h0.2.1
  have H0 : Hid (Str w a0 n0 s0) := h0
  have q1 := h1.2.1
  have H1 : Hid (Str w a1 n1 s1) := h1
  have q2 := h2.2.1
  have H2 : Hid (Str w a2 n2 s2) := h2
  clear h0 h1 h2
  go_enter Try.func6, Try.ntmps6
  go_wp2_with fail
  go_loop [7, 16] (fun t i => ∃ k tt : Nat, k ≤ n0 ∧ i = .int .i64 k ∧ t = .int .i64 tt ∧ tt ≤ 1048576) (fun _ i => n0 - (intOf i).toNat)
  case atStart => exact ⟨0, 0, Nat.zero_le _, rfl, by go_num, by omega⟩
  case round =>
    obtain ⟨k0, t0, hk0, rfl, rfl, ht0⟩ := hrel
    by_cases hlt0 : k0 < n0
    · have j1 : (k0 : Int) < (n0 : Int) := by omega
      obtain ⟨b, off, hab, hcl⟩ := H0.out.2.2.1 k0 hlt0
      have hix := idx22 a0 n0 c0 k0 b off hab hlt0
      obtain ⟨x, hx⟩ : ∃ x, x = s0.getD k0 ByteArray.empty := ⟨_, rfl⟩
      have hxs : x.size ≤ 9223372036854775807 := by rw [hx]; exact H0.out.2.2.2 _ (getD_mem (by rw [H0.out.1]; exact hlt0))
      rw [← hx] at hcl
      clear hab hx
      by_cases g1 : (1048576 : Int) < (x.size : Int)
      · go_wp2
        go_ret
        exact ⟨false, rfl, rfl, fun h => by cases h⟩
      by_cases g2 : (1048576 : Int) < (t0 : Int) + (16 + (x.size : Int))
      · go_wp2
        go_ret
        exact ⟨false, rfl, rfl, fun h => by cases h⟩
      · go_wp2
        go_round
        case rel => exact ⟨k0 + 1, t0 + (16 + x.size), by omega, by go_num, by go_num, by omega⟩
        case measure => simp [intOf]; omega
    · have j1 : (n0 : Int) ≤ (k0 : Int) := by omega
      go_wp2_with fail
      go_loop [7, 33] (fun t i => ∃ k tt : Nat, k ≤ n1 ∧ i = .int .i64 k ∧ t = .int .i64 tt ∧ tt ≤ 1048576) (fun _ i => n1 - (intOf i).toNat)
      case atStart => exact ⟨0, t0, Nat.zero_le _, rfl, by go_num, by omega⟩
      case round =>
        obtain ⟨k1, t1, hk1, rfl, rfl, ht1⟩ := hrel
        by_cases hlt1 : k1 < n1
        · have j1 : (k1 : Int) < (n1 : Int) := by omega
          obtain ⟨b, off, hab, hcl⟩ := H1.out.2.2.1 k1 hlt1
          have hix := idx22 a1 n1 c1 k1 b off hab hlt1
          obtain ⟨x, hx⟩ : ∃ x, x = s1.getD k1 ByteArray.empty := ⟨_, rfl⟩
          have hxs : x.size ≤ 9223372036854775807 := by rw [hx]; exact H1.out.2.2.2 _ (getD_mem (by rw [H1.out.1]; exact hlt1))
          rw [← hx] at hcl
          clear hab hx
          by_cases g1 : (1048576 : Int) < (x.size : Int)
          · go_wp2
            go_ret
            exact ⟨false, rfl, rfl, fun h => by cases h⟩
          by_cases g2 : (1048576 : Int) < (t1 : Int) + (16 + (x.size : Int))
          · go_wp2
            go_ret
            exact ⟨false, rfl, rfl, fun h => by cases h⟩
          · go_wp2
            go_round
            case rel => exact ⟨k1 + 1, t1 + (16 + x.size), by omega, by go_num, by go_num, by omega⟩
            case measure => simp [intOf]; omega
        · have j1 : (n1 : Int) ≤ (k1 : Int) := by omega
          go_wp2_with fail
          go_loop [7, 50] (fun t i => ∃ k tt : Nat, k ≤ n2 ∧ i = .int .i64 k ∧ t = .int .i64 tt ∧ tt ≤ 1048576) (fun _ i => n2 - (intOf i).toNat)
          case atStart => exact ⟨0, t1, Nat.zero_le _, rfl, by go_num, by omega⟩
          case round =>
            obtain ⟨k2, t2, hk2, rfl, rfl, ht2⟩ := hrel
            by_cases hlt2 : k2 < n2
            · have j1 : (k2 : Int) < (n2 : Int) := by omega
              obtain ⟨b, off, hab, hcl⟩ := H2.out.2.2.1 k2 hlt2
              have hix := idx22 a2 n2 c2 k2 b off hab hlt2
              obtain ⟨x, hx⟩ : ∃ x, x = s2.getD k2 ByteArray.empty := ⟨_, rfl⟩
              have hxs : x.size ≤ 9223372036854775807 := by rw [hx]; exact H2.out.2.2.2 _ (getD_mem (by rw [H2.out.1]; exact hlt2))
              rw [← hx] at hcl
              clear hab hx
              by_cases g1 : (1048576 : Int) < (x.size : Int)
              · go_wp2
                go_ret
                exact ⟨false, rfl, rfl, fun h => by cases h⟩
              by_cases g2 : (1048576 : Int) < (t2 : Int) + (16 + (x.size : Int))
              · go_wp2
                go_ret
                exact ⟨false, rfl, rfl, fun h => by cases h⟩
              · go_wp2
                go_round
                case rel => exact ⟨k2 + 1, t2 + (16 + x.size), by omega, by go_num, by go_num, by omega⟩
                case measure => simp [intOf]; omega
            · have j1 : (n2 : Int) ≤ (k2 : Int) := by omega
              go_wp2
              go_ret
              exact ⟨true, rfl, rfl, fun _ => trivial⟩

end Go.Proofs.Qxb6630384a.Moved
