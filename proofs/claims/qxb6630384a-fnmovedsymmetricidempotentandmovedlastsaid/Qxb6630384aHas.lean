/- The contracts of the small functions of this seat. -/
import Derived.Test.Qxb6630384aRows
import Derived.WalkKit
import Derived.ProofKit
import Derived.OpenShut
import Derived.Below
import Derived.Outline
import Derived.WalkSpells
import Derived.WalkLawsBesides
import Derived.OwnWalk
namespace Go.Proofs.Qxb6630384a.Moved
open Go.RowKit
set_option linter.unusedVariables false

theorem info9 : (Try.prog.info? 9).map (fun i => (i.zero, i.size, i.bytes)) = some (some (.string ByteArray.empty), 1, 16) := by kernel_rfl

theorem add_mk (b off j : Nat) : (⟨b, off, none⟩ : Addr).add j = ⟨b, off + j, none⟩ := by
  unfold Addr.add
  split
  · simp_all
  · rfl

/-- An index into a slice of strings whose address is a letter, once it is known where it lies. -/
theorem idx22 (a : Option Addr) (n c k b off : Nat) (ha : a = some ⟨b, off, none⟩) (hk : k < n) (w : World) :
    (Instr.indexAt 22 (.slice a n c) (.int .i64 (k : Int))).run Try.prog w = .ok (.pointer (some ⟨b, off + k, none⟩)) w := by
  obtain ⟨i, hi, hz, hsz, hb⟩ := info_parts info9
  subst ha
  rw [run_indexAt_slice w 22 _ n c .i64 _ (by kernel_rfl)]
  rw [if_pos ⟨by omega, by omega⟩]
  have he : Try.prog.elem 22 = 9 := by kernel_rfl
  rw [he]
  simp [sizeOf, typeInfo, hi, hsz, add_mk, Result.andThen]

theorem idx24 (a : Option Addr) (n c k b off : Nat) (ha : a = some ⟨b, off, none⟩) (hk : k < n) (w : World) :
    (Instr.indexAt 24 (.slice a n c) (.int .i64 (k : Int))).run Try.prog w = .ok (.pointer (some ⟨b, off + k, none⟩)) w := by
  obtain ⟨i, hi, hz, hsz, hb⟩ := info_parts info9
  subst ha
  rw [run_indexAt_slice w 24 _ n c .i64 _ (by kernel_rfl)]
  rw [if_pos ⟨by omega, by omega⟩]
  have he : Try.prog.elem 24 = 9 := by kernel_rfl
  rw [he]
  simp [sizeOf, typeInfo, hi, hsz, add_mk, Result.andThen]

/-- The slice at 'a' holds the n strings 'ss'. -/
def Str (w : World) (a : Option Addr) (n : Nat) (ss : List ByteArray) : Prop :=
  ss.length = n ∧ n ≤ 9223372036854775807 ∧ (∀ k, k < n → ∃ b off, a = some ⟨b, off, none⟩ ∧ w.cell? ⟨b, off + k, none⟩ = some (.string (ss.getD k ByteArray.empty))) ∧ ∀ s ∈ ss, s.size ≤ maxLen

def eqs (x v : ByteArray) : Bool := x.toList == v.toList
def has (ss : List ByteArray) (v : ByteArray) : Bool := ss.any (fun x => eqs x v)
def stays (bs ts : List ByteArray) (v : ByteArray) : Bool := has bs v == has ts v
def cnt (ss : List ByteArray) (v : ByteArray) : Nat := (ss.filter (fun x => eqs x v)).length

theorem getD_eq {ss : List ByteArray} {k : Nat} (h : k < ss.length) : ss.getD k ByteArray.empty = ss[k] := by
  rw [List.getD_eq_getElem?_getD, List.getElem?_eq_getElem h]; rfl

theorem take_snoc {ss : List ByteArray} {k : Nat} (h : k < ss.length) : ss.take (k + 1) = ss.take k ++ [ss.getD k ByteArray.empty] := by
  rw [List.take_succ_eq_append_getElem h, getD_eq h]

theorem getD_mem {ss : List ByteArray} {k : Nat} (h : k < ss.length) : ss.getD k ByteArray.empty ∈ ss := by
  rw [getD_eq h]; exact List.getElem_mem h

theorem has_hit {ss : List ByteArray} {k : Nat} {v : ByteArray} (h : k < ss.length) (e : eqs (ss.getD k ByteArray.empty) v = true) : has ss v = true := by
  unfold has
  rw [List.any_eq_true]
  exact ⟨_, getD_mem h, e⟩

theorem has_miss {ss : List ByteArray} {k : Nat} {v : ByteArray} (h : k < ss.length) (h0 : has (ss.take k) v = false) (e : eqs (ss.getD k ByteArray.empty) v = false) : has (ss.take (k + 1)) v = false := by
  unfold has at *
  rw [take_snoc h, List.any_append, h0]
  generalize ss.getD k ByteArray.empty = x at *
  simp [e]

theorem cnt_step {ss : List ByteArray} {k : Nat} (v : ByteArray) (h : k < ss.length) : cnt (ss.take (k + 1)) v = cnt (ss.take k) v + if eqs (ss.getD k ByteArray.empty) v = true then 1 else 0 := by
  unfold cnt
  rw [take_snoc h, List.filter_append, List.length_append]
  generalize ss.getD k ByteArray.empty = x at *
  by_cases e : eqs x v = true
  · simp [e]
  · simp [e]

theorem cnt_le (ss : List ByteArray) (v : ByteArray) (k : Nat) : cnt (ss.take k) v ≤ k := by
  unfold cnt
  have h1 := List.length_filter_le (fun x => eqs x v) (ss.take k)
  have h2 := List.length_take_le k ss
  omega

theorem ret_bool {a b : Bool} (h : a = b) : Ending.returned (.bool a) = .returned (.bool b) := by rw [h]
theorem ret_int {k : IntKind} {a b : Int} (h : a = b) : Ending.returned (.int k a) = .returned (.int k b) := by rw [h]

set_option maxHeartbeats 400000 in
theorem has_any (a : Option Addr) (n c : Nat) (ss : List ByteArray) (v : ByteArray) (w : World) (h : Str w a n ss) :
    Calls Try.prog 11 #[.slice a n c, .string v] w fun e w' => e = .returned (.bool (has ss v)) ∧ w = w' := by
  have hn := h.2.1
  have HX : Hid (Str w a n ss) := h
  clear h
  go_enter Try.func11, Try.ntmps11
  go_wp2
  go_loop [9] (fun i => ∃ k : Nat, k ≤ n ∧ i = .int .i64 k ∧ has (ss.take k) v = false) (fun i => n - (intOf i).toNat)
  case atStart => exact ⟨0, Nat.zero_le _, rfl, rfl⟩
  case round =>
    obtain ⟨k, hk, rfl, hh⟩ := hrel
    have HH : Hid (has (ss.take k) v = false) := hh
    clear hh
    have hl := HX.out.1
    have HL : Hid (ss.length = n) := hl
    clear hl
    by_cases hlt : k < n
    · have j1 : (k : Int) < (n : Int) := by omega
      obtain ⟨b, off, hab, hcl⟩ := HX.out.2.2.1 k hlt
      have hix := idx22 a n c k b off hab hlt
      obtain ⟨x, hx⟩ : ∃ x, x = ss.getD k ByteArray.empty := ⟨_, rfl⟩
      rw [← hx] at hcl
      have HXX : Hid (x = ss.getD k ByteArray.empty) := hx
      clear hab hx
      go_wp2
      · have e : eqs x v = true := by assumption
        have hx := HXX.out
        go_ret
        exact ⟨ret_bool (has_hit (k := k) (by rw [HL.out]; exact hlt) (by rw [← hx]; exact e)).symm, rfl⟩
      · have e : eqs x v = false := by assumption
        go_round
        case rel => exact ⟨k + 1, by omega, by go_num, has_miss (by rw [HL.out]; exact hlt) HH.out (by rw [← HXX.out]; exact e)⟩
        case measure => simp [intOf]; omega
    · have j1 : (n : Int) ≤ (k : Int) := by omega
      have e : has ss v = false := by
        have := HH.out
        rwa [List.take_of_length_le (by rw [HL.out]; omega)] at this
      have HE : Hid (has ss v = false) := e
      clear e
      go_wp2
      go_ret
      exact ⟨ret_bool HE.out.symm, rfl⟩

theorem stays_any (a0 a1 : Option Addr) (n0 c0 n1 c1 : Nat) (bs ts : List ByteArray) (v : ByteArray) (w : World) (h0 : Str w a0 n0 bs) (h1 : Str w a1 n1 ts) :
    Calls Try.prog 8 #[.slice a0 n0 c0, .slice a1 n1 c1, .string v] w fun e w' => e = .returned (.bool (stays bs ts v)) ∧ w = w' := by
  have H0 : Hid (Str w a0 n0 bs) := h0
  have H1 : Hid (Str w a1 n1 ts) := h1
  clear h0 h1
  go_enter Try.func8, Try.ntmps8
  go_wp2_with fail
  refine (has_any a0 n0 c0 bs v w H0.out).mono ?_
  rintro e w' ⟨rfl, rfl⟩
  go_wp2_with fail
  refine (has_any a1 n1 c1 ts v w H1.out).mono ?_
  rintro e w' ⟨rfl, rfl⟩
  go_wp2
  go_ret
  exact ⟨rfl, rfl⟩

set_option maxHeartbeats 400000 in
theorem count_any (a : Option Addr) (n c : Nat) (ss : List ByteArray) (v : ByteArray) (w : World) (h : Str w a n ss) :
    Calls Try.prog 10 #[.slice a n c, .string v] w fun e w' => e = .returned (.int .i64 (cnt ss v : Nat)) ∧ w = w' := by
  have hn := h.2.1
  have HX : Hid (Str w a n ss) := h
  clear h
  go_enter Try.func10, Try.ntmps10
  go_wp2
  go_loop [5, 10] (fun r i => ∃ k : Nat, k ≤ n ∧ i = .int .i64 k ∧ r = .int .i64 (cnt (ss.take k) v : Nat)) (fun _ i => n - (intOf i).toNat)
  case atStart => exact ⟨0, Nat.zero_le _, rfl, rfl⟩
  case round =>
    obtain ⟨k, hk, rfl, rfl⟩ := hrel
    have HL : Hid (ss.length = n) := HX.out.1
    have hcn := cnt_le ss v k
    obtain ⟨q, hq⟩ : ∃ q, q = cnt (ss.take k) v := ⟨_, rfl⟩
    rw [← hq] at hcn ⊢
    have HQ : Hid (q = cnt (ss.take k) v) := hq
    clear hq
    by_cases hlt : k < n
    · have j1 : (k : Int) < (n : Int) := by omega
      obtain ⟨b, off, hab, hcl⟩ := HX.out.2.2.1 k hlt
      have hix := idx22 a n c k b off hab hlt
      have HS : Hid (cnt (ss.take (k + 1)) v = cnt (ss.take k) v + if eqs (ss.getD k ByteArray.empty) v = true then 1 else 0) := cnt_step v (by rw [HL.out]; exact hlt)
      obtain ⟨x, hx⟩ : ∃ x, x = ss.getD k ByteArray.empty := ⟨_, rfl⟩
      rw [← hx] at hcl
      have HXX : Hid (x = ss.getD k ByteArray.empty) := hx
      clear hab hx
      go_wp2
      · have e : eqs x v = true := by assumption
        go_round
        case rel => exact ⟨k + 1, by omega, by go_num, by have h := HS.out; rw [← HXX.out, if_pos e, ← HQ.out] at h; rw [h]; go_num⟩
        case measure => simp [intOf]; omega
      · have e : eqs x v = false := by assumption
        go_round
        case rel => exact ⟨k + 1, by omega, by go_num, by have h := HS.out; rw [← HXX.out, e, ← HQ.out] at h; rw [h]; simp⟩
        case measure => simp [intOf]; omega
    · have j1 : (n : Int) ≤ (k : Int) := by omega
      have e : q = cnt ss v := by
        have := HQ.out
        rwa [List.take_of_length_le (by rw [HL.out]; omega)] at this
      have HE : Hid (q = cnt ss v) := e
      clear e
      go_wp2
      go_ret
      exact ⟨ret_int (by rw [HE.out]), rfl⟩

end Go.Proofs.Qxb6630384a.Moved
