/- The contracts of isDigits, digitsValue and dateFields. -/
import Derived.Test.Qxb6630431aFmtLeaf
import Derived.Lib.Strings
namespace Go.Proofs.Qxb6630431aFmt.Dates
open Go.RowKit
set_option linter.unusedVariables false

/-- Byte i of a string, as a number. -/
def bt (s : ByteArray) (i : Nat) : Int := ((s.data.toList.getD i 0).toNat : Int)

theorem bt_get (s : ByteArray) (k : Nat) (h : k < s.size) : ((s[k]).toNat : Int) = bt s k := by
  unfold bt
  rw [List.getD_eq_getElem?_getD, List.getElem?_eq_getElem (by simpa using h)]
  rfl

theorem bt_bd (s : ByteArray) (k : Nat) : 0 ≤ bt s k ∧ bt s k ≤ 255 := by
  unfold bt
  have := (s.data.toList.getD k 0).toNat_lt
  omega

def digs (t : ByteArray) : Bool := decide (0 < t.size ∧ ∀ k, k < t.size → 48 ≤ bt t k ∧ bt t k ≤ 57)

theorem digs_no {t : ByteArray} {k : Nat} (h : k < t.size) (e : ¬ (48 ≤ bt t k ∧ bt t k ≤ 57)) : digs t = false := decide_eq_false (fun h2 => e (h2.2 k h))

theorem digs_end {t : ByteArray} (h : ∀ j, j < t.size → 48 ≤ bt t j ∧ bt t j ≤ 57) : (!t.toList.isEmpty) = digs t := by
  have e : t.toList.length = t.size := by rw [ByteArray.toList_eq]; simp
  by_cases h0 : 0 < t.size
  · have : digs t = true := decide_eq_true ⟨h0, h⟩
    rw [this]
    cases hl : t.toList with
    | nil => rw [hl] at e; simp at e; omega
    | cons x xs => rfl
  · have : digs t = false := decide_eq_false (fun h2 => h0 h2.1)
    rw [this]
    have hn : t.toList = [] := List.eq_nil_of_length_eq_zero (by omega)
    rw [hn]; rfl

set_option maxHeartbeats 400000 in
theorem isDigits_any (t : ByteArray) (w : World) (ht : t.size ≤ 1048576) :
    Calls Tryf.prog 25 #[.string t] w fun e w' => e = .returned (.bool (digs t)) ∧ w = w' := by
  go_enter Tryf.func25, Tryf.ntmps25
  go_wp2
  go_loop [3] (fun i => ∃ k : Nat, k ≤ t.size ∧ i = .int .i64 k ∧ ∀ j, j < k → 48 ≤ bt t j ∧ bt t j ≤ 57) (fun i => t.size - (intOf i).toNat)
  case atStart => exact ⟨0, Nat.zero_le _, rfl, fun j hj => by omega⟩
  case round =>
    obtain ⟨k, hk, rfl, hd⟩ := hrel
    have HD : Hid (∀ j, j < k → 48 ≤ bt t j ∧ bt t j ≤ 57) := hd
    clear hd
    by_cases hlt : k < t.size
    · have HB : Hid (((t[k]).toNat : Int) = bt t k) := bt_get t k hlt
      by_cases g1 : ((t[k]).toNat : Int) < 48
      · have E : Hid (digs t = false) := digs_no hlt (by rw [← HB.out]; omega)
        go_wp2
        go_ret
        exact ⟨ret_bool E.out.symm, rfl⟩
      · by_cases g2 : 57 < ((t[k]).toNat : Int)
        · have E : Hid (digs t = false) := digs_no hlt (by rw [← HB.out]; omega)
          go_wp2
          go_ret
          exact ⟨ret_bool E.out.symm, rfl⟩
        · have NX : Hid (∀ j, j < k + 1 → 48 ≤ bt t j ∧ bt t j ≤ 57) := fun j hj => by
            by_cases e : j = k
            · subst e; rw [← HB.out]; omega
            · exact HD.out j (by omega)
          go_wp2
          go_round
          case rel => exact ⟨k + 1, by omega, by go_num, NX.out⟩
          case measure => simp [intOf]; omega
    · have E : Hid ((!t.toList.isEmpty) = digs t) := digs_end (fun j hj => HD.out j (by omega))
      go_wp2
      go_ret
      exact ⟨ret_bool E.out, rfl⟩

/-- The number that a string of digits writes. -/
def val (l : List UInt8) : Int := l.foldl (fun n b => n * 10 + ((b.toNat : Int) - 48) % 256) 0

theorem val_snoc (l : List UInt8) (b : UInt8) : val (l ++ [b]) = val l * 10 + ((b.toNat : Int) - 48) % 256 := by simp [val, List.foldl_append]

theorem val_bd : ∀ (l : List UInt8), 0 ≤ val l ∧ (l.length ≤ 4 → val l ≤ 1000000) := by
  intro l
  have h : ∀ (l : List UInt8) (n : Int), 0 ≤ n → 0 ≤ l.foldl (fun n b => n * 10 + ((b.toNat : Int) - 48) % 256) n := by
    intro l
    induction l with
    | nil => intro n hn; exact hn
    | cons b l ih => intro n hn; simp only [List.foldl_cons]; exact ih _ (by omega)
  refine ⟨h l 0 (by omega), fun hl => ?_⟩
  match l, hl with
  | [], _ => simp [val]
  | [a], _ => simp [val]; omega
  | [a, b], _ => simp [val]; omega
  | [a, b, c], _ => simp [val]; omega
  | [a, b, c, d], _ => simp [val]; omega

theorem take_byte (s : ByteArray) (k : Nat) (h : k < s.size) : s.data.toList.take (k + 1) = s.data.toList.take k ++ [s[k]] := by
  rw [List.take_succ_eq_append_getElem (by simpa using h)]; rfl

set_option maxHeartbeats 400000 in
theorem value_any (t : ByteArray) (w : World) (ht : t.size ≤ 4) :
    Calls Tryf.prog 26 #[.string t] w fun e w' => e = .returned (.int .i64 (val t.data.toList)) ∧ w = w' := by
  go_enter Tryf.func26, Tryf.ntmps26
  go_wp2
  go_loop [3, 4] (fun n i => ∃ k : Nat, k ≤ t.size ∧ i = .int .i64 k ∧ n = .int .i64 (val (t.data.toList.take k))) (fun _ i => t.size - (intOf i).toNat)
  case atStart => exact ⟨0, Nat.zero_le _, rfl, rfl⟩
  case round =>
    obtain ⟨k, hk, rfl, rfl⟩ := hrel
    obtain ⟨b1, b2⟩ := val_bd (t.data.toList.take k)
    have b3 := b2 (by simp; omega)
    clear b2
    obtain ⟨v, hv⟩ : ∃ v, v = val (t.data.toList.take k) := ⟨_, rfl⟩
    rw [← hv] at b1 b3 ⊢
    have HV : Hid (v = val (t.data.toList.take k)) := hv
    clear hv
    by_cases hlt : k < t.size
    · have HS : Hid (val (t.data.toList.take (k + 1)) = v * 10 + (((t[k]).toNat : Int) - 48) % 256) := by show _ = _; rw [take_byte t k hlt, val_snoc, HV.out]
      go_wp2
      go_round
      case rel => exact ⟨k + 1, by omega, by go_num, by rw [HS.out]⟩
      case measure => simp [intOf]; omega
    · have E : Hid (v = val t.data.toList) := by show _ = _; rw [HV.out, List.take_of_length_le (by simp; omega)]
      go_wp2
      go_ret
      exact ⟨ret_int E.out, rfl⟩

theorem ext_size (s : ByteArray) (a b : Nat) (h : s.size = 10) (hb : b ≤ 10) : (s.extract a b).size = b - a := by simp [ByteArray.size_extract, h]; omega

set_option maxRecDepth 100000 in
set_option maxHeartbeats 2000000 in
theorem fields_yes (s : ByteArray) (w : World) (hs : s.size = 10) (h4 : bt s 4 = 45) (h7 : bt s 7 = 45) (d1 : digs (s.extract 0 4) = true) (d2 : digs (s.extract 5 7) = true) (d3 : digs (s.extract 8 s.size) = true) :
    Calls Tryf.prog 20 #[.string s] w fun e w' => e = .returned (.tuple #[.int .i64 (val (s.extract 0 4).data.toList), .int .i64 (val (s.extract 5 7).data.toList), .int .i64 (val (s.extract 8 s.size).data.toList), .bool true]) ∧ ∃ n, w' = w.drewN n := by
  have e1 : (s.extract 0 4).size ≤ 4 := by rw [ext_size s 0 4 hs (by omega)]; omega
  have e2 : (s.extract 5 7).size ≤ 4 := by rw [ext_size s 5 7 hs (by omega)]; omega
  have e3 : (s.extract 8 s.size).size ≤ 4 := by rw [ext_size s 8 s.size hs (by omega)]; omega
  have g1 : ((s.size : Int) != 10) = false := by simp [hs]
  have z2 : 10 ≤ s.size := by omega
  have g4 : (((s[4]'(Nat.lt_of_lt_of_le (by decide) z2)).toNat : Int) != 45) = false := by rw [bt_get s 4 (by omega), h4]; rfl
  have g7 : (((s[7]'(Nat.lt_of_lt_of_le (by decide) z2)).toNat : Int) != 45) = false := by rw [bt_get s 7 (by omega), h7]; rfl
  have z1 : (10 : Int) ≤ (s.size : Int) := by omega
  clear h4 h7 hs
  go_enter Tryf.func20, Tryf.ntmps20
  go_wp2_with (first | (go_at_call 25; refine (isDigits_any _ _ (by omega)).mono ?_; rintro e w' ⟨rfl, rfl⟩))
  go_quiet ((go_at_call 26; exact Calls.quiet_of_same ((value_any _ _ (by omega)).mono fun e w' ⟨h1, h2⟩ => ⟨h1, h2.symm⟩)))
  go_wp2
  exact bodyPost_ret (v := .tuple #[.int .i64 (val (s.extract 0 4).data.toList), .int .i64 (val (s.extract 5 7).data.toList), .int .i64 (val (s.extract 8 s.size).data.toList), .bool true]) (by simp [results, Tryf.results20, go_sem]) rfl ⟨rfl, _, rfl⟩

/-- The form YYYY-MM-DD, digits and signs alone. -/
def Form (s : ByteArray) : Prop := s.size = 10 ∧ bt s 4 = 45 ∧ bt s 7 = 45 ∧ digs (s.extract 0 4) = true ∧ digs (s.extract 5 7) = true ∧ digs (s.extract 8 s.size) = true

set_option maxRecDepth 100000 in
set_option maxHeartbeats 2000000 in
theorem fields_no (s : ByteArray) (w : World) (h : ¬ Form s) :
    Calls Tryf.prog 20 #[.string s] w fun e w' => e = .returned (.tuple #[.int .i64 0, .int .i64 0, .int .i64 0, .bool false]) ∧ w = w' := by
  by_cases hs : s.size = 10
  · have e1 : (s.extract 0 4).size ≤ 4 := by rw [ext_size s 0 4 hs (by omega)]; omega
    have e2 : (s.extract 5 7).size ≤ 4 := by rw [ext_size s 5 7 hs (by omega)]; omega
    have e3 : (s.extract 8 s.size).size ≤ 4 := by rw [ext_size s 8 s.size hs (by omega)]; omega
    have g1 : ((s.size : Int) != 10) = false := by simp [hs]
    have z2 : 10 ≤ s.size := by omega
    have z1 : (10 : Int) ≤ (s.size : Int) := by omega
    by_cases h4 : bt s 4 = 45
    · have g4 : (((s[4]'(Nat.lt_of_lt_of_le (by decide) z2)).toNat : Int) != 45) = false := by rw [bt_get s 4 (by omega), h4]; rfl
      by_cases h7 : bt s 7 = 45
      · have g7 : (((s[7]'(Nat.lt_of_lt_of_le (by decide) z2)).toNat : Int) != 45) = false := by rw [bt_get s 7 (by omega), h7]; rfl
        cases d1 : digs (s.extract 0 4) with
        | false =>
          clear h h4 h7 hs
          go_enter Tryf.func20, Tryf.ntmps20
          go_wp2_with (first | (go_at_call 25; refine (isDigits_any _ _ (by omega)).mono ?_; rintro e w' ⟨rfl, rfl⟩))
          exact bodyPost_ret (v := .tuple #[.int .i64 0, .int .i64 0, .int .i64 0, .bool false]) (by simp [results, Tryf.results20, go_sem]) rfl ⟨rfl, rfl⟩
        | true =>
          cases d2 : digs (s.extract 5 7) with
          | false =>
            clear h h4 h7 hs
            go_enter Tryf.func20, Tryf.ntmps20
            go_wp2_with (first | (go_at_call 25; refine (isDigits_any _ _ (by omega)).mono ?_; rintro e w' ⟨rfl, rfl⟩))
            exact bodyPost_ret (v := .tuple #[.int .i64 0, .int .i64 0, .int .i64 0, .bool false]) (by simp [results, Tryf.results20, go_sem]) rfl ⟨rfl, rfl⟩
          | true =>
            cases d3 : digs (s.extract 8 s.size) with
            | false =>
              clear h h4 h7 hs
              go_enter Tryf.func20, Tryf.ntmps20
              go_wp2_with (first | (go_at_call 25; refine (isDigits_any _ _ (by omega)).mono ?_; rintro e w' ⟨rfl, rfl⟩))
              exact bodyPost_ret (v := .tuple #[.int .i64 0, .int .i64 0, .int .i64 0, .bool false]) (by simp [results, Tryf.results20, go_sem]) rfl ⟨rfl, rfl⟩
            | true => exact absurd ⟨hs, h4, h7, d1, d2, d3⟩ h
      · have g7 : (((s[7]'(Nat.lt_of_lt_of_le (by decide) z2)).toNat : Int) != 45) = true := by rw [bt_get s 7 (by omega)]; simpa using h7
        clear h h4 h7 hs
        go_enter Tryf.func20, Tryf.ntmps20
        go_wp2
        exact bodyPost_ret (v := .tuple #[.int .i64 0, .int .i64 0, .int .i64 0, .bool false]) (by simp [results, Tryf.results20, go_sem]) rfl ⟨rfl, rfl⟩
    · have g4 : (((s[4]'(Nat.lt_of_lt_of_le (by decide) z2)).toNat : Int) != 45) = true := by rw [bt_get s 4 (by omega)]; simpa using h4
      clear h h4 hs
      go_enter Tryf.func20, Tryf.ntmps20
      go_wp2
      exact bodyPost_ret (v := .tuple #[.int .i64 0, .int .i64 0, .int .i64 0, .bool false]) (by simp [results, Tryf.results20, go_sem]) rfl ⟨rfl, rfl⟩
  · have g1 : ((s.size : Int) != 10) = true := by simp; omega
    clear h hs
    go_enter Tryf.func20, Tryf.ntmps20
    go_wp2
    exact bodyPost_ret (v := .tuple #[.int .i64 0, .int .i64 0, .int .i64 0, .bool false]) (by simp [results, Tryf.results20, go_sem]) rfl ⟨rfl, rfl⟩

end Go.Proofs.Qxb6630431aFmt.Dates
