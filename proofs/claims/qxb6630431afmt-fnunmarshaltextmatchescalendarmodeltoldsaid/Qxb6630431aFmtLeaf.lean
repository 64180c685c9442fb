/- The contracts of the small functions on the road. -/
import Derived.Test.Qxb6630431aFmtRows
import Derived.WalkKit
import Derived.ProofKit
import Derived.OpenShut
import Derived.Below
import Derived.Outline
import Derived.WalkSpells
import Derived.WalkLawsBesides
import Derived.OwnWalk
import Derived.Deep.QuietTactic
import Derived.BigQuiet
namespace Go.Proofs.Qxb6630431aFmt.Dates
open Go.RowKit
set_option linter.unusedVariables false

theorem ret_bool {a b : Bool} (h : a = b) : Ending.returned (.bool a) = .returned (.bool b) := by rw [h]
theorem ret_int {k : IntKind} {a b : Int} (h : a = b) : Ending.returned (.int k a) = .returned (.int k b) := by rw [h]

def leapB (y : Int) : Bool := decide (y % 4 = 0 ∧ (y % 100 ≠ 0 ∨ y % 400 = 0))
def dim (y m : Int) : Int := if m = 2 then (if leapB y = true then 29 else 28) else if m = 4 ∨ m = 6 ∨ m = 9 ∨ m = 11 then 30 else 31

theorem leap_t {y : Int} (h : y % 4 = 0 ∧ (y % 100 ≠ 0 ∨ y % 400 = 0)) : leapB y = true := decide_eq_true h
theorem leap_f {y : Int} (h : ¬ (y % 4 = 0 ∧ (y % 100 ≠ 0 ∨ y % 400 = 0))) : leapB y = false := decide_eq_false h

theorem isLeap_any (y : Int) (w : World) (h1 : 0 ≤ y) (h2 : y ≤ 100000) : Calls Tryf.prog 27 #[.int .i64 y] w fun e w' => e = .returned (.bool (leapB y)) ∧ w = w' := by
  by_cases c4 : (y % 4 == 0) = true
  · by_cases c100 : (y % 100 != 0) = true
    · have e : leapB y = true := leap_t (by simp at c4 c100; omega)
      have E : Hid (leapB y = true) := e
      clear e
      go_enter Tryf.func27, Tryf.ntmps27
      go_wp2
      go_ret
      exact ⟨ret_bool E.out.symm, rfl⟩
    · have c100' : (y % 100 != 0) = false := by simpa using c100
      clear c100
      by_cases c400 : (y % 400 == 0) = true
      · have E : Hid (leapB y = true) := leap_t (by simp at c4 c400; omega)
        go_enter Tryf.func27, Tryf.ntmps27
        go_wp2
        go_ret
        exact ⟨ret_bool E.out.symm, rfl⟩
      · have c400' : (y % 400 == 0) = false := by simpa using c400
        have E : Hid (leapB y = false) := leap_f (by simp at c100' c400'; omega)
        clear c400
        go_enter Tryf.func27, Tryf.ntmps27
        go_wp2
        go_ret
        exact ⟨ret_bool E.out.symm, rfl⟩
  · have c4' : (y % 4 == 0) = false := by simpa using c4
    have E : Hid (leapB y = false) := leap_f (by simp at c4'; omega)
    clear c4
    go_enter Tryf.func27, Tryf.ntmps27
    go_wp2
    go_ret
    exact ⟨ret_bool E.out.symm, rfl⟩

theorem zzLeap_any (y : Int) (w : World) (h1 : 0 ≤ y) (h2 : y ≤ 100000) : Calls Tryf.prog 19 #[.int .i64 y] w fun e w' => e = .returned (.bool (leapB y)) ∧ w = w' := by
  by_cases c400 : (y % 400 == 0) = true
  · have E : Hid (leapB y = true) := leap_t (by simp at c400; omega)
    go_enter Tryf.func19, Tryf.ntmps19
    go_wp2
    go_ret
    exact ⟨ret_bool E.out.symm, rfl⟩
  · have c400' : (y % 400 == 0) = false := by simpa using c400
    clear c400
    by_cases c100 : (y % 100 == 0) = true
    · have E : Hid (leapB y = false) := leap_f (by simp at c100 c400'; omega)
      go_enter Tryf.func19, Tryf.ntmps19
      go_wp2
      go_ret
      exact ⟨ret_bool E.out.symm, rfl⟩
    · have c100' : (y % 100 == 0) = false := by simpa using c100
      clear c100
      have E : Hid ((y % 4 == 0) = leapB y) := by
        show _ = _
        by_cases c4 : y % 4 = 0
        · rw [leap_t ⟨c4, by simp at c100'; omega⟩]; simpa using c4
        · rw [leap_f (by omega)]; simpa using c4
      go_enter Tryf.func19, Tryf.ntmps19
      go_wp2
      go_ret
      exact ⟨ret_bool E.out, rfl⟩

theorem month_cases {m : Int} (h1 : 1 ≤ m) (h2 : m ≤ 12) : m = 1 ∨ m = 2 ∨ m = 3 ∨ m = 4 ∨ m = 5 ∨ m = 6 ∨ m = 7 ∨ m = 8 ∨ m = 9 ∨ m = 10 ∨ m = 11 ∨ m = 12 := by omega

theorem daysBefore_any (f : Int) (w : World) (h1 : 0 ≤ f) (h2 : f ≤ 11) : Calls Tryf.prog 28 #[.int .i64 f] w fun e w' => e = .returned (.int .i64 ((153 * f + 2) / 5)) ∧ w = w' := by
  go_enter Tryf.func28, Tryf.ntmps28
  go_wp2
  go_ret
  exact ⟨rfl, rfl⟩

def tab (i : Int) : Int := if i = 1 then 28 else dim 1 (i + 1)

theorem table (w : World) (i : Int) (h0 : 0 ≤ i) (h1 : i ≤ 11) :
    (Instr.index 54 (.agg #[.int .i64 31, .int .i64 28, .int .i64 31, .int .i64 30, .int .i64 31, .int .i64 30, .int .i64 31, .int .i64 31, .int .i64 30, .int .i64 31, .int .i64 30, .int .i64 31]) (.int .i64 i)).run Tryf.prog w = .ok (.int .i64 (tab i)) w := by
  rcases (show i = 0 ∨ i = 1 ∨ i = 2 ∨ i = 3 ∨ i = 4 ∨ i = 5 ∨ i = 6 ∨ i = 7 ∨ i = 8 ∨ i = 9 ∨ i = 10 ∨ i = 11 from by omega) with rfl | rfl | rfl | rfl | rfl | rfl | rfl | rfl | rfl | rfl | rfl | rfl <;> kernel_rfl

set_option maxHeartbeats 1000000 in
theorem daysIn_any (y m : Int) (w : World) (h1 : 0 ≤ y) (h2 : y ≤ 100000) (m1 : 1 ≤ m) (m2 : m ≤ 12) : Calls Tryf.prog 21 #[.int .i64 y, .int .i64 m] w fun e w' => e = .returned (.int .i64 (dim y m)) ∧ w = w' := by
  have ht := fun (w : World) => table w (m - 1) (by omega) (by omega)
  by_cases c2 : (m == 2) = true
  · cases hl : leapB y with
    | true =>
      have E : Hid (dim y m = 29) := by show _ = _; simp at c2; simp [dim, c2, hl]
      clear ht
      go_enter Tryf.func21, Tryf.ntmps21
      go_wp2_with (first | (go_at_call 27; refine (isLeap_any _ _ h1 h2).mono ?_; rintro e w' ⟨rfl, rfl⟩))
      go_ret
      exact ⟨ret_int E.out.symm, rfl⟩
    | false =>
      have E : Hid (tab (m - 1) = dim y m) := by show _ = _; simp at c2; subst c2; simp [tab, dim, hl]
      go_enter Tryf.func21, Tryf.ntmps21
      go_wp2_with (first | (go_at_call 27; refine (isLeap_any _ _ h1 h2).mono ?_; rintro e w' ⟨rfl, rfl⟩))
      go_ret
      exact ⟨ret_int E.out, rfl⟩
  · have c2' : (m == 2) = false := by simpa using c2
    have E : Hid (tab (m - 1) = dim y m) := by
      show tab (m - 1) = _
      simp at c2
      rw [tab, if_neg (by omega)]
      have e : m - 1 + 1 = m := by omega
      rw [e]; simp [dim, c2]
    clear c2
    go_enter Tryf.func21, Tryf.ntmps21
    go_wp2_with (first | (go_at_call 27; refine (isLeap_any _ _ h1 h2).mono ?_; rintro e w' ⟨rfl, rfl⟩))
    go_ret
    exact ⟨ret_int E.out, rfl⟩

set_option maxHeartbeats 1000000 in
theorem monthLen_any (y m : Int) (w : World) (h1 : 0 ≤ y) (h2 : y ≤ 100000) (m1 : 1 ≤ m) (m2 : m ≤ 12) : Calls Tryf.prog 18 #[.int .i64 y, .int .i64 m] w fun e w' => e = .returned (.int .i64 (dim y m)) ∧ w = w' := by
  rcases month_cases m1 m2 with rfl | rfl | rfl | rfl | rfl | rfl | rfl | rfl | rfl | rfl | rfl | rfl
  case inr.inl =>
    cases hl : leapB y with
    | true =>
      have E : Hid (dim y 2 = 29) := by show _ = _; simp [dim, hl]
      go_enter Tryf.func18, Tryf.ntmps18
      go_wp2_with (first | (go_at_call 19; refine (zzLeap_any _ _ h1 h2).mono ?_; rintro e w' ⟨rfl, rfl⟩))
      go_ret
      exact ⟨ret_int E.out.symm, rfl⟩
    | false =>
      have E : Hid (dim y 2 = 28) := by show _ = _; simp [dim, hl]
      go_enter Tryf.func18, Tryf.ntmps18
      go_wp2_with (first | (go_at_call 19; refine (zzLeap_any _ _ h1 h2).mono ?_; rintro e w' ⟨rfl, rfl⟩))
      go_ret
      exact ⟨ret_int E.out.symm, rfl⟩
  all_goals
    go_enter Tryf.func18, Tryf.ntmps18
    go_wp2
    go_ret
    exact ⟨ret_int (by simp [dim]), rfl⟩

/-! ### dateOf -/
def dn (y f d : Int) : Int := y / 400 * 146097 + ((y - y / 400 * 400) * 365 + (y - y / 400 * 400) / 4 - (y - y / 400 * 400) / 100 + (153 * f + 2) / 5) - 719468 + d - 1
def dnum (y m d : Int) : Int := dn (if 10 ≤ (m + 9) % 12 then y - 1 else y) ((m + 9) % 12) d

theorem ret_date {a b : Int} (s : Bool) (h : a = b) : Ending.returned (.agg #[.int .i64 a, .bool s]) = .returned (.agg #[.int .i64 b, .bool s]) := by rw [h]

theorem dateOf_any (y m d : Int) (w : World) (h1 : 1900 ≤ y) (h2 : y ≤ 2199) (m1 : 1 ≤ m) (m2 : m ≤ 12) (d1 : 1 ≤ d) (d2 : d ≤ 31) :
    Calls Tryf.prog 22 #[.int .i64 y, .int .i64 m, .int .i64 d] w fun e w' => e = .returned (.agg #[.int .i64 (dnum y m d), .bool true]) ∧ Below w.heap.size w w' := by
  by_cases c : 10 ≤ (m + 9) % 12
  · have E : Hid (dn (y - 1) ((m + 9) % 12) d = dnum y m d) := by show _ = _; rw [dnum, if_pos c]
    go_enter Tryf.func22, Tryf.ntmps22
    go_wp2_with (first | (go_at_call 28; refine (daysBefore_any _ _ (by omega) (by omega)).mono ?_; rintro e w' ⟨rfl, rfl⟩))
    exact bodyPost_ret (v := .agg #[.int .i64 (dn (y - 1) ((m + 9) % 12) d), .bool true]) (by simp [results, Tryf.results22, go_sem, dn]) rfl ⟨ret_date true E.out, (Below.refl _ _).alloc (Nat.le_refl _) _⟩
  · have E : Hid (dn y ((m + 9) % 12) d = dnum y m d) := by show _ = _; rw [dnum, if_neg c]
    go_enter Tryf.func22, Tryf.ntmps22
    go_wp2_with (first | (go_at_call 28; refine (daysBefore_any _ _ (by omega) (by omega)).mono ?_; rintro e w' ⟨rfl, rfl⟩))
    exact bodyPost_ret (v := .agg #[.int .i64 (dn y ((m + 9) % 12) d), .bool true]) (by simp [results, Tryf.results22, go_sem, dn]) rfl ⟨ret_date true E.out, (Below.refl _ _).alloc (Nat.le_refl _) _⟩

end Go.Proofs.Qxb6630431aFmt.Dates
