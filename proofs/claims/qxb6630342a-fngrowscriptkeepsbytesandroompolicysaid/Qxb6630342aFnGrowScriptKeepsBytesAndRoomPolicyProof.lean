/- The proof of one given statement of this seat: the frame is the kit's shell for this function, the walk is ours. -/
import Derived.Test.Qxb6630342aRows
import Derived.Test.Qxb6630342aScript
import Derived.WalkKit
import Derived.ProofKit
import Derived.OpenShut
import Derived.ShutString
import Derived.ChangeOld
import Derived.Below
namespace Go.Proofs.Qxb6630342a.fnGrowScriptKeepsBytesAndRoomPolicy
open Go.ChangeShapes Go.WideShapes Go.ChangeAt Go.RowKit
open Go.ChangeMaps (open_string shut_string)
set_option linter.unusedVariables false

theorem own : ownKnob Try.prog.godebug = none := by kernel_rfl
theorem laidOut : laidOutB Try.prog = true := by kernel_rfl

/-- WHAT THE WALK IS TOLD OF A SLICE OF INTEGERS THAT CAME IN: it is nil; or it leads to a row of 'cap' cells, the numbers 'zs' (the first 'len' are its elements, the rest its spare room), each fitting its kind. -/
def IsRow (k : IntKind) (w : World) (a : Option Addr) (len cap : Nat) (zs : List Int) : Prop :=
  (a = none ∧ len = 0 ∧ cap = 0 ∧ zs = []) ∨
  ∃ x, a = some x ∧ len ≤ cap ∧ cap ≤ maxLen ∧ zs.length = cap ∧ (∀ i, i < zs.length → w.cell? (x.add i) = some (.int k (zs.getD i 0))) ∧ ∀ n ∈ zs, (Lit.int k n).wf = true

theorem row_cell {kd : IntKind} {w : World} {x : Addr} {zs : List Int} (hcell : ∀ i, i < zs.length → w.cell? (x.add i) = some (.int kd (zs.getD i 0))) {k : Nat} (hk : k < zs.length) :
    ∃ b off, (some x : Option Addr) = some ⟨b, off, none⟩ ∧ w.cell? ⟨b, off + k, none⟩ = some (.int kd (zs.getD k 0)) := by
  obtain ⟨b, off, spot⟩ := x
  have hc0 := hcell 0 (by omega)
  have hspot : spot = none := by simpa [Addr.add] using World.cell?_spot hc0
  subst hspot
  refine ⟨b, off, rfl, ?_⟩
  have h := hcell k hk
  rwa [Grow.add_mk] at h

theorem bytes2_no (a0 a1 : Option Addr) (n c n1 c1 : Nat) (l : Int) (w : World) (hn : 1048576 < n + n1) (hm : n ≤ maxLen) (hm1 : n1 ≤ maxLen) :
    Calls Try.prog 5 #[.slice a0 n c, .slice a1 n1 c1, .int .i64 l] w fun e w' => e = .returned (.bool false) ∧ w = w' := by
  unfold maxLen at hm hm1
  have h : 1048576 < (n : Int) + (n1 : Int) := by omega
  by_cases h1 : 1048576 < (n : Int)
  · go_enter Try.func5, Try.ntmps5
    go_wp2
    go_ret
    exact ⟨rfl, rfl⟩
  · by_cases h2 : 1048576 < (n1 : Int)
    · go_enter Try.func5, Try.ntmps5
      go_wp2
      go_ret
      exact ⟨rfl, rfl⟩
    · go_enter Try.func5, Try.ntmps5
      go_wp2
      go_ret
      exact ⟨rfl, rfl⟩

set_option maxRecDepth 100000 in
theorem over_long (a0 a1 : Option Addr) (n c n1 c1 : Nat) (l : Int) (w : World) (hn : 1048576 < n + n1) (hm : n ≤ maxLen) (hm1 : n1 ≤ maxLen) :
    Calls Try.prog 3 #[.slice a0 n c, .slice a1 n1 c1, .int .i64 l] w fun e w' => e = .returned (.bool true) ∧ Below w.heap.size w w' := by
  go_enter Try.func3, Try.ntmps3
  go_wp2_with (first | (go_at_call 5; refine (bytes2_no _ _ _ _ _ _ _ _ hn hm hm1).mono ?_; rintro e w' ⟨rfl, rfl⟩))
  go_ret
  exact ⟨rfl, Below.refl _ _⟩

set_option maxRecDepth 100000 in
set_option maxHeartbeats 1000000 in
/-- Outside the premises the law answers true at once. -/
theorem early (a0 a1 : Option Addr) (n c n1 c1 : Nat) (l : Int) (w : World) (hn : n + n1 ≤ 1048576) (hnc : n ≤ c) (hc : c ≤ maxLen) (b : -9223372036854775808 ≤ l ∧ l ≤ 9223372036854775807)
    (g : 1048576 < c ∨ 65536 < n1 ∨ 1048576 < c + 8 * n1 ∨ l < 0 ∨ 65536 < l ∨ l < n) :
    Calls Try.prog 3 #[.slice a0 n c, .slice a1 n1 c1, .int .i64 l] w fun e w' => e = .returned (.bool true) ∧ Below w.heap.size w w' := by
  unfold maxLen at hc
  by_cases e0 : (1048576 : Int) < (c : Int)
  · clear g
    go_enter Try.func3, Try.ntmps3
    go_wp2_with (first | (go_at_call 5; refine (Grow.bytes2_yes _ _ _ _ _ _ _ _ (by omega)).mono ?_; rintro e w' ⟨rfl, rfl⟩))
    go_ret
    exact ⟨rfl, Below.refl _ _⟩
  by_cases e1 : 65536 < (n1 : Int)
  · clear g
    go_enter Try.func3, Try.ntmps3
    go_wp2_with (first | (go_at_call 5; refine (Grow.bytes2_yes _ _ _ _ _ _ _ _ (by omega)).mono ?_; rintro e w' ⟨rfl, rfl⟩))
    go_ret
    exact ⟨rfl, Below.refl _ _⟩
  by_cases e2 : 1048576 < (c : Int) + 8 * (n1 : Int)
  · clear g
    go_enter Try.func3, Try.ntmps3
    go_wp2_with (first | (go_at_call 5; refine (Grow.bytes2_yes _ _ _ _ _ _ _ _ (by omega)).mono ?_; rintro e w' ⟨rfl, rfl⟩))
    go_ret
    exact ⟨rfl, Below.refl _ _⟩
  by_cases e3 : l < 0
  · clear g
    go_enter Try.func3, Try.ntmps3
    go_wp2_with (first | (go_at_call 5; refine (Grow.bytes2_yes _ _ _ _ _ _ _ _ (by omega)).mono ?_; rintro e w' ⟨rfl, rfl⟩))
    go_ret
    exact ⟨rfl, Below.refl _ _⟩
  by_cases e4 : 65536 < l
  · clear g
    go_enter Try.func3, Try.ntmps3
    go_wp2_with (first | (go_at_call 5; refine (Grow.bytes2_yes _ _ _ _ _ _ _ _ (by omega)).mono ?_; rintro e w' ⟨rfl, rfl⟩))
    go_ret
    exact ⟨rfl, Below.refl _ _⟩
  by_cases e5 : l < (n : Int)
  · clear g
    go_enter Try.func3, Try.ntmps3
    go_wp2_with (first | (go_at_call 5; refine (Grow.bytes2_yes _ _ _ _ _ _ _ _ (by omega)).mono ?_; rintro e w' ⟨rfl, rfl⟩))
    go_ret
    exact ⟨rfl, Below.refl _ _⟩
  · exfalso; omega

/-! ### STEP 1: THE WALK: the Go text returns true, AND WRITES NOTHING THAT WAS THERE: 'Below w.heap.size w w'' (Derived/Below.lean: '.refl', '.alloc', '.drew', '.setCell' at a new block, '.trans'). Open each 'IsRow' by 'rcases' AHEAD of 'go_enter'; part every test ahead of the walk. -/
theorem walk (a0 : Option Addr) (len0 cap0 : Nat) (z0 : List Int) (a1 : Option Addr) (len1 cap1 : Nat) (z1 : List Int) (a2 : Int) (w : World) (w0 : IsRow .u8 w a0 len0 cap0 z0) (w1 : IsRow .i64 w a1 len1 cap1 z1) (w2 : (Lit.int .i64 a2).wf = true) :
    Calls Try.prog 3 #[.slice a0 len0 cap0, .slice a1 len1 cap1, .int .i64 a2] w fun e w' => e = .returned (.bool true) ∧ Below w.heap.size w w' := by
  have b2 := bounds_i64 w2
  clear w2
  have hle : len0 ≤ cap0 ∧ cap0 ≤ maxLen := by
    rcases w0 with ⟨_, rfl, rfl, _⟩ | ⟨_, _, h1, h2, _⟩
    · exact ⟨Nat.le_refl _, Nat.zero_le _⟩
    · exact ⟨h1, h2⟩
  have hle1 : len1 ≤ cap1 ∧ cap1 ≤ maxLen := by
    rcases w1 with ⟨_, rfl, rfl, _⟩ | ⟨_, _, h1, h2, _⟩
    · exact ⟨Nat.le_refl _, Nat.zero_le _⟩
    · exact ⟨h1, h2⟩
  by_cases g1 : 1048576 < len0 + len1
  · exact over_long a0 a1 len0 cap0 len1 cap1 a2 w g1 (Nat.le_trans hle.1 hle.2) (Nat.le_trans hle1.1 hle1.2)
  by_cases g2 : 1048576 < cap0 ∨ 65536 < len1 ∨ 1048576 < cap0 + 8 * len1 ∨ a2 < 0 ∨ 65536 < a2 ∨ a2 < len0
  · exact early a0 a1 len0 cap0 len1 cap1 a2 w (by omega) hle.1 hle.2 b2 g2
  · obtain ⟨l, rfl⟩ := Int.eq_ofNat_of_zero_le (a := a2) (by omega)
    refine Grow.script a0 a1 len0 cap0 len1 cap1 l (z0.take len0) z1 w ?_ hle.1 (by omega) ?_ (by omega) (by omega) (by omega) (by omega) ?_ ?_ ?_
    · rcases w0 with ⟨_, rfl, _, rfl⟩ | ⟨_, _, h1, _, h3, _⟩
      · rfl
      · simp; omega
    · rcases w0 with ⟨_, _, h, _⟩ | ⟨x, h, _⟩
      · exact fun _ => h
      · intro e; rw [e] at h; cases h
    · intro k hk
      rcases w0 with ⟨_, h, _, _⟩ | ⟨x, rfl, hl, hm, hz, hcell, _⟩
      · omega
      · obtain ⟨b, off, h1, h2⟩ := row_cell hcell (k := k) (by omega)
        refine ⟨b, off, h1, ?_⟩
        rw [h2, List.getD_eq_getElem?_getD, List.getD_eq_getElem?_getD, List.getElem?_take, if_pos hk]
    · intro k hk
      rcases w1 with ⟨_, h, _, _⟩ | ⟨x, rfl, hl, hm, hz, hcell, _⟩
      · omega
      · exact row_cell hcell (by omega)
    · intro k
      rcases w1 with ⟨_, _, _, rfl⟩ | ⟨x, _, hl, hm, hz, hcell, hwz⟩
      · simp
      · have := range_i64 hwz k
        rw [List.getD_eq_getElem?_getD]; exact this

/-! ### THE ROW's STEP: WRITTEN OUT: LEAVE IT -/
set_option maxRecDepth 100000 in
theorem lifted (os : Os) (started : os.Started) (H : Type) (enc : TypeId × Value → H) :
    ReturnsInHanded {} Try.checked os 3 .any (Rows.fnGrowScriptKeepsBytesAndRoomPolicySpec.pre6 enc Try.prog Try.f3 Rows.fnGrowScriptKeepsBytesAndRoomPolicyRow.domain false) (Rows.fnGrowScriptKeepsBytesAndRoomPolicySpec.post enc Try.prog Try.f3 false true false false) := by
  refine returnsInHanded_of_change (C := Try.checked) own started (by kernel_rfl) Try.func3
    (ChangeSpec.witness6 (enc := enc) (C := Try.checked) false ⟨#[], #[.slice none 0 0, .slice none 0 0, .int .i64 0], []⟩ 8 (by kernel_rfl) (by kernel_rfl) (by kernel_rfl) (by kernel_rfl)) ?_
  intro W base args ds gs before hval0 hW hcnd _
  have hval : ∀ (j : Nat) t v, Try.f3.params[j]? = some t → args[j]? = some v → Value.okWide Try.prog W .any base t v := hval0
  have hW' := hW
  obtain ⟨p, q, hA0, hV, rfl, hfz, hnd⟩ := hW
  have hA : DataW.TrodAll enc Try.prog W 0 (fun _ => true) true Try.f3.params.toList args.toList ds p := hA0
  rw [Try.params3] at hA hval
  obtain ⟨v0, vs0, d0, ds0, p0, q0, hargs, rfl, rfl, h0, r0⟩ := trodAll_cons hA
  obtain ⟨v1, vs1, d1, ds1, p1, q1, rfl, rfl, rfl, h1, r1⟩ := trodAll_cons r0
  obtain ⟨v2, vs2, d2, ds2, p2, q2, rfl, rfl, rfl, h2, r2⟩ := trodAll_cons r1
  obtain ⟨rfl, rfl, rfl⟩ := trodAll_nil r2
  obtain rfl : args = #[v0, v1, v2] := by cases args; simp_all
  obtain ⟨rfl, rfl⟩ := trodVars_none hV
  obtain ⟨a0, len0, cap0, rfl⟩ := okWide_slice Try.underlying22 (hval 0 22 v0 rfl rfl)
  have k0 := h0
  have lt0 : ∀ x ∈ p0, x.block < W.heap.size := by obtain ⟨m, hm⟩ := k0; exact DataW.trod_lt m _ _ _ hm
  obtain ⟨z0, w0⟩ : ∃ zs, IsRow .u8 W a0 len0 cap0 zs := by
    obtain ⟨fuel, hf⟩ := h0
    rcases open_ints Try.underlying22 Try.underlying5 (by kernel_rfl) hf with ⟨hcs, _⟩ | ⟨x, l, c, zs, hcs, _, hl, hm, hz, _, hcell, hwz⟩
    · simp [Value.cells] at hcs
      obtain ⟨rfl, rfl, rfl⟩ := hcs
      exact ⟨[], .inl ⟨rfl, rfl, rfl, rfl⟩⟩
    · simp [Value.cells] at hcs
      obtain ⟨rfl, rfl, rfl⟩ := hcs
      exact ⟨zs, .inr ⟨_, rfl, hl, hm, by simpa using hz, hcell, hwz⟩⟩
  obtain ⟨a1, len1, cap1, rfl⟩ := okWide_slice Try.underlying23 (hval 1 23 v1 rfl rfl)
  have k1 := h1
  have lt1 : ∀ x ∈ p1, x.block < W.heap.size := by obtain ⟨m, hm⟩ := k1; exact DataW.trod_lt m _ _ _ hm
  obtain ⟨z1, w1⟩ : ∃ zs, IsRow .i64 W a1 len1 cap1 zs := by
    obtain ⟨fuel, hf⟩ := h1
    rcases open_ints Try.underlying23 Try.underlying3 (by kernel_rfl) hf with ⟨hcs, _⟩ | ⟨x, l, c, zs, hcs, _, hl, hm, hz, _, hcell, hwz⟩
    · simp [Value.cells] at hcs
      obtain ⟨rfl, rfl, rfl⟩ := hcs
      exact ⟨[], .inl ⟨rfl, rfl, rfl, rfl⟩⟩
    · simp [Value.cells] at hcs
      obtain ⟨rfl, rfl, rfl⟩ := hcs
      exact ⟨zs, .inr ⟨_, rfl, hl, hm, by simpa using hz, hcell, hwz⟩⟩
  obtain ⟨a2, rfl, rfl, rfl, w2⟩ := open_int Try.underlying3 (hval 2 3 v2 rfl rfl) h2
  clear hA0 hval0
  refine (walk a0 len0 cap0 z0 a1 len1 cap1 z1 a2 W w0 w1 w2).mono fun e W' ⟨he, bel⟩ => ?_
  subst he
  exact ⟨_, rfl, _, _, _, [], _, [], hW', trodAll_mk1 (shut_bool Try.underlying4 _), (trodAll_cons_mk (Below.trod laidOut (by kernel_rfl) (of_decide_eq_true (by kernel_rfl)) k0 bel lt0) (trodAll_cons_mk (Below.trod laidOut (by kernel_rfl) (of_decide_eq_true (by kernel_rfl)) k1 bel lt1) (trodAll_cons_mk (shut_int Try.underlying3 w2) trodAll_mk0))), rfl, bel.frame _, fun h => by cases h⟩

theorem over : Rows.fnGrowScriptKeepsBytesAndRoomPolicyRow.holds Try.pinned (OpenSpec.ofChange Rows.fnGrowScriptKeepsBytesAndRoomPolicySpec) :=
  OpenClaim.holds_of_wide 3 Try.f3 rfl rfl rfl rfl rfl rfl rfl ⟨rfl, rfl, rfl, rfl, rfl⟩ rfl rfl rfl rfl rfl (by kernel_rfl) Try.func3 (by kernel_rfl)
    (of_decide_eq_true (by kernel_rfl)) (by unfold Func.isWrapper; first | (rw [if_pos (by decide +kernel)]; kernel_rfl) | (rw [if_neg (by decide +kernel)]; exact ⟨rfl, rfl⟩))
    (fun os started H enc _ => lifted os started H enc)

/-- ████ THE STATEMENT ████ -/
theorem proved : Rows.FnGrowScriptKeepsBytesAndRoomPolicySaid := over
end Go.Proofs.Qxb6630342a.fnGrowScriptKeepsBytesAndRoomPolicy
