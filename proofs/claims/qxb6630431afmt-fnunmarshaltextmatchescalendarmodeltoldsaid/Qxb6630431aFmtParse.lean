/- The contract of ParseDate, from that of dateFields. -/
import Derived.Test.Qxb6630431aFmtErrorf
import Derived.Deep.Draws
import Derived.WalkSmall
import Derived.OneCell
namespace Go.Proofs.Qxb6630431aFmt.Dates
open Go.RowKit Go.Extern.Stop Go.Stop Go.Extern
set_option linter.unusedVariables false

theorem bcell {W w1 : World} (hb : Below W.heap.size W w1) : (∀ b o, b < W.heap.size → w1.cell? ⟨b, o, none⟩ = W.cell? ⟨b, o, none⟩) ∧ (∀ b o, b < W.heap.size → w1.frozen? ⟨b, o, none⟩ = W.frozen? ⟨b, o, none⟩) :=
  ⟨fun b o h => hb.cell (p := ⟨b, o, none⟩) h, fun b o h => hb.frozen (p := ⟨b, o, none⟩) h⟩

set_option maxRecDepth 100000 in
set_option maxHeartbeats 1000000 in
theorem parse_core_yes (s : ByteArray) (y m d : Int) (w : World) (hf : ∀ W, Calls Tryf.prog 20 #[.string s] W fun e w' => e = .returned (.tuple #[.int .i64 y, .int .i64 m, .int .i64 d, .bool true]) ∧ ∃ n, w' = W.drewN n)
    (h1 : 1900 ≤ y) (h2 : y ≤ 2199) (m1 : 1 ≤ m) (m2 : m ≤ 12) (d1 : 1 ≤ d) (d2 : d ≤ dim y m) (d3 : dim y m ≤ 31) :
    Calls Tryf.prog 15 #[.string s] w fun e w' => e = .returned (.tuple #[.agg #[.int .i64 (dnum y m d), .bool true], .nilIface]) ∧ Below w.heap.size w w' := by
  have HF : Hid (∀ W, Calls Tryf.prog 20 #[.string s] W fun e w' => e = .returned (.tuple #[.int .i64 y, .int .i64 m, .int .i64 d, .bool true]) ∧ ∃ n, w' = W.drewN n) := hf
  clear hf
  obtain ⟨D, hD⟩ : ∃ D, D = dim y m := ⟨_, rfl⟩
  rw [← hD] at d2 d3
  have HD : Hid (∀ W, Calls Tryf.prog 21 #[.int .i64 y, .int .i64 m] W fun e w' => e = .returned (.int .i64 D) ∧ W = w') := fun W => by rw [hD]; exact daysIn_any y m W (by omega) (by omega) m1 m2
  clear hD
  go_enter Tryf.func15, Tryf.ntmps15
  go_wp2_with (first | (go_at_call 20; refine (HF.out _).mono ?_; rintro e w' ⟨rfl, nq, rfl⟩) | (go_at_call 21; refine (HD.out _).mono ?_; rintro e w' ⟨rfl, rfl⟩))
  refine (dateOf_any y m d _ h1 h2 m1 m2 d1 (by omega)).mono ?_
  rintro e w1 ⟨rfl, hb⟩
  obtain ⟨hc, hfz⟩ := bcell hb
  have hz : w.heap.size < w1.heap.size := by have := hb.size; simp at this; omega
  have HB : Hid (Below ((w.alloc (.cells #[.int .i64 0, .bool false] 25)).drewN nq).heap.size ((w.alloc (.cells #[.int .i64 0, .bool false] 25)).drewN nq) w1) := hb
  clear hb
  go_wp2
  refine bodyPost_ret (v := .tuple #[.agg #[.int .i64 (dnum y m d), .bool true], .nilIface]) (by simp [results, Tryf.results15, go_sem, hc]) rfl ⟨rfl, ?_⟩
  have h0 : Below w.heap.size w ((w.alloc (.cells #[.int .i64 0, .bool false] 25)).drewN nq) := below_drewN ((Below.refl _ _).alloc (Nat.le_refl _) _) _
  exact ((h0.trans (HB.out.mono (by simp))).setCell (Nat.le_refl _) _).setCell (Nat.le_refl _) _

/-- A date that is no date: an error of errors.New's make, whose text lies at its address. -/
def Refused (B : Nat) (w w' : World) (e : Ending) : Prop :=
  ∃ (g : Nat) (T : ByteArray), e = .returned (.tuple #[.agg #[.int .i64 0, .bool false], .iface 56 (.pointer (some ⟨g, 0, none⟩))]) ∧ w'.cell? ⟨g, 0, none⟩ = some (.string T) ∧ B ≤ g ∧ Below B w w'

theorem cell_var (w : World) (nq : Nat) (s : ByteArray) :
    (((w.alloc (.cells #[.int .i64 0, .bool false] 25)).drewN nq).alloc (.cells #[.iface 9 (.string s)] 20)).cell? ⟨w.heap.size + 1, 0, none⟩ = some (.iface 9 (.string s)) := by
  have h := heap_alloc_new ((w.alloc (.cells #[.int .i64 0, .bool false] 25)).drewN nq) (.cells #[.iface 9 (.string s)] 20)
  have e : ((w.alloc (.cells #[.int .i64 0, .bool false] 25)).drewN nq).heap.size = w.heap.size + 1 := by simp
  rw [e] at h
  exact cell_of_one h

theorem refused_mk (w : World) (nq : Nat) (s T : ByteArray) :
    Refused w.heap.size w ((((((w.alloc (.cells #[.int .i64 0, .bool false] 25)).drewN nq).setCell ⟨w.heap.size, 0, none⟩ (.int .i64 0)).setCell ⟨w.heap.size, 1, none⟩ (.bool false)).alloc (.cells #[.iface 9 (.string s)] 20)).alloc (.cells #[.string T] 58)).drew
      (.returned (.tuple #[.agg #[.int .i64 0, .bool false], .iface 56 (.pointer (some ⟨w.heap.size + 1 + 1, 0, none⟩))])) := by
  have b1 : Below w.heap.size w (((w.alloc (.cells #[.int .i64 0, .bool false] 25)).drewN nq).setCell ⟨w.heap.size, 0, none⟩ (.int .i64 0)) := (below_drewN ((Below.refl _ _).alloc (Nat.le_refl _) _) _).setCell (Nat.le_refl _) _
  have b2 := b1.setCell (p := ⟨w.heap.size, 1, none⟩) (Nat.le_refl _) (.bool false)
  have b3 := b2.alloc b2.size (.cells #[.iface 9 (.string s)] 20)
  have b4 := b3.alloc b3.size (.cells #[.string T] 58)
  refine ⟨w.heap.size + 1 + 1, T, rfl, ?_, by omega, b4.drew⟩
  have h := heap_alloc_new (((((w.alloc (.cells #[.int .i64 0, .bool false] 25)).drewN nq).setCell ⟨w.heap.size, 0, none⟩ (.int .i64 0)).setCell ⟨w.heap.size, 1, none⟩ (.bool false)).alloc (.cells #[.iface 9 (.string s)] 20)) (.cells #[.string T] 58)
  have e : (((((w.alloc (.cells #[.int .i64 0, .bool false] 25)).drewN nq).setCell ⟨w.heap.size, 0, none⟩ (.int .i64 0)).setCell ⟨w.heap.size, 1, none⟩ (.bool false)).alloc (.cells #[.iface 9 (.string s)] 20)).heap.size = w.heap.size + 1 + 1 := by simp [World.setCell]
  rw [e] at h
  exact cell_of_one (w := World.drew _) h

set_option maxRecDepth 100000 in
set_option maxHeartbeats 2000000 in
theorem parse_core_no (F : Stop.Interp) (s : ByteArray) (y m d : Int) (ok : Bool) (w : World) (hF : F.answers w.tape) (hf : ∀ W, Calls Tryf.prog 20 #[.string s] W fun e w' => e = .returned (.tuple #[.int .i64 y, .int .i64 m, .int .i64 d, .bool ok]) ∧ ∃ n, w' = W.drewN n)
    (yb : 0 ≤ y ∧ y ≤ 1000000) (mb : 0 ≤ m ∧ m ≤ 1000000) (db : 0 ≤ d ∧ d ≤ 1000000) (hbad : ok = false ∨ y < 1900 ∨ 2199 < y ∨ m < 1 ∨ 12 < m ∨ d < 1 ∨ dim y m < d) :
    Calls Tryf.prog 15 #[.string s] w fun e w' => Refused w.heap.size w w' e := by
  have HF : Hid (∀ W, Calls Tryf.prog 20 #[.string s] W fun e w' => e = .returned (.tuple #[.int .i64 y, .int .i64 m, .int .i64 d, .bool ok]) ∧ ∃ n, w' = W.drewN n) := hf
  have HT : Hid (F.answers w.tape) := hF
  clear hf hF
  cases ok with
  | false =>
    clear hbad
    go_enter Tryf.func15, Tryf.ntmps15
    go_wp2_with (first | (go_at_call 20; refine (HF.out _).mono ?_; rintro e w' ⟨rfl, nq, rfl⟩))
    refine (errorfA F s (w.heap.size + 1) _ (by exact HT.out) (cell_var w nq s)).mono ?_
    rintro e w' ⟨T, rfl, rfl⟩
    go_wp2
    exact bodyPost_ret (v := .tuple #[.agg #[.int .i64 0, .bool false], .iface 56 (.pointer (some ⟨w.heap.size + 1 + 1, 0, none⟩))]) (by simp [results, Tryf.results15, go_sem]) rfl (refused_mk w nq s T)
  | true =>
    by_cases e0 : y < 1900
    · clear hbad
      go_enter Tryf.func15, Tryf.ntmps15
      go_wp2_with (first | (go_at_call 20; refine (HF.out _).mono ?_; rintro e w' ⟨rfl, nq, rfl⟩))
      refine (errorfA F s (w.heap.size + 1) _ (by exact HT.out) (cell_var w nq s)).mono ?_
      rintro e w' ⟨T, rfl, rfl⟩
      go_wp2
      exact bodyPost_ret (v := .tuple #[.agg #[.int .i64 0, .bool false], .iface 56 (.pointer (some ⟨w.heap.size + 1 + 1, 0, none⟩))]) (by simp [results, Tryf.results15, go_sem]) rfl (refused_mk w nq s T)
    by_cases e1 : 2199 < y
    · clear hbad
      go_enter Tryf.func15, Tryf.ntmps15
      go_wp2_with (first | (go_at_call 20; refine (HF.out _).mono ?_; rintro e w' ⟨rfl, nq, rfl⟩))
      refine (errorfA F s (w.heap.size + 1) _ (by exact HT.out) (cell_var w nq s)).mono ?_
      rintro e w' ⟨T, rfl, rfl⟩
      go_wp2
      exact bodyPost_ret (v := .tuple #[.agg #[.int .i64 0, .bool false], .iface 56 (.pointer (some ⟨w.heap.size + 1 + 1, 0, none⟩))]) (by simp [results, Tryf.results15, go_sem]) rfl (refused_mk w nq s T)
    by_cases e2 : m < 1
    · clear hbad
      go_enter Tryf.func15, Tryf.ntmps15
      go_wp2_with (first | (go_at_call 20; refine (HF.out _).mono ?_; rintro e w' ⟨rfl, nq, rfl⟩))
      refine (errorfA F s (w.heap.size + 1) _ (by exact HT.out) (cell_var w nq s)).mono ?_
      rintro e w' ⟨T, rfl, rfl⟩
      go_wp2
      exact bodyPost_ret (v := .tuple #[.agg #[.int .i64 0, .bool false], .iface 56 (.pointer (some ⟨w.heap.size + 1 + 1, 0, none⟩))]) (by simp [results, Tryf.results15, go_sem]) rfl (refused_mk w nq s T)
    by_cases e3 : 12 < m
    · clear hbad
      go_enter Tryf.func15, Tryf.ntmps15
      go_wp2_with (first | (go_at_call 20; refine (HF.out _).mono ?_; rintro e w' ⟨rfl, nq, rfl⟩))
      refine (errorfA F s (w.heap.size + 1) _ (by exact HT.out) (cell_var w nq s)).mono ?_
      rintro e w' ⟨T, rfl, rfl⟩
      go_wp2
      exact bodyPost_ret (v := .tuple #[.agg #[.int .i64 0, .bool false], .iface 56 (.pointer (some ⟨w.heap.size + 1 + 1, 0, none⟩))]) (by simp [results, Tryf.results15, go_sem]) rfl (refused_mk w nq s T)
    by_cases e4 : d < 1
    · clear hbad
      go_enter Tryf.func15, Tryf.ntmps15
      go_wp2_with (first | (go_at_call 20; refine (HF.out _).mono ?_; rintro e w' ⟨rfl, nq, rfl⟩))
      refine (errorfA F s (w.heap.size + 1) _ (by exact HT.out) (cell_var w nq s)).mono ?_
      rintro e w' ⟨T, rfl, rfl⟩
      go_wp2
      exact bodyPost_ret (v := .tuple #[.agg #[.int .i64 0, .bool false], .iface 56 (.pointer (some ⟨w.heap.size + 1 + 1, 0, none⟩))]) (by simp [results, Tryf.results15, go_sem]) rfl (refused_mk w nq s T)
    have hd : dim y m < d := by
      rcases hbad with h | h | h | h | h | h | h
      · cases h
      all_goals omega
    obtain ⟨D, hD⟩ : ∃ D, D = dim y m := ⟨_, rfl⟩
    rw [← hD] at hd
    have HD : Hid (∀ W, Calls Tryf.prog 21 #[.int .i64 y, .int .i64 m] W fun e w' => e = .returned (.int .i64 D) ∧ W = w') := fun W => by rw [hD]; exact daysIn_any y m W (by omega) (by omega) (by omega) (by omega)
    clear hD hbad
    go_enter Tryf.func15, Tryf.ntmps15
    go_wp2_with (first | (go_at_call 20; refine (HF.out _).mono ?_; rintro e w' ⟨rfl, nq, rfl⟩) | (go_at_call 21; refine (HD.out _).mono ?_; rintro e w' ⟨rfl, rfl⟩))
    refine (errorfA F s (w.heap.size + 1) _ (by exact HT.out) (cell_var w nq s)).mono ?_
    rintro e w' ⟨T, rfl, rfl⟩
    go_wp2
    exact bodyPost_ret (v := .tuple #[.agg #[.int .i64 0, .bool false], .iface 56 (.pointer (some ⟨w.heap.size + 1 + 1, 0, none⟩))]) (by simp [results, Tryf.results15, go_sem]) rfl (refused_mk w nq s T)

end Go.Proofs.Qxb6630431aFmt.Dates
