/- The proof of one given statement of this seat: the frame is the kit's shell for this function, the walk is ours. -/
import Derived.Test.Qxb6630342aRows
import Derived.Test.Qxb6630342aGrow
import Derived.Test.Qxb6630342aShares
import Derived.Test.Qxb6630342aSharesNil
import Derived.WalkKit
import Derived.ProofKit
import Derived.OpenShut
import Derived.ShutString
import Derived.ChangeOld
import Derived.Below
namespace Go.Proofs.Qxb6630342a.fnGrowSharesOnlyWhenRoomAndSettles
open Go.ChangeShapes Go.WideShapes Go.ChangeAt Go.RowKit
open Go.ChangeMaps (open_string shut_string)
set_option linter.unusedVariables false

theorem own : ownKnob Try.prog.godebug = none := by kernel_rfl
theorem laidOut : laidOutB Try.prog = true := by kernel_rfl

/-- WHAT THE WALK IS TOLD OF A SLICE OF INTEGERS THAT CAME IN: it is nil; or it leads to a row of 'cap' cells, the numbers 'zs' (the first 'len' are its elements, the rest its spare room), each fitting its kind. -/
def IsRow (k : IntKind) (w : World) (a : Option Addr) (len cap : Nat) (zs : List Int) : Prop :=
  (a = none ∧ len = 0 ∧ cap = 0 ∧ zs = []) ∨
  ∃ x, a = some x ∧ len ≤ cap ∧ cap ≤ maxLen ∧ zs.length = cap ∧ (∀ i, i < zs.length → w.cell? (x.add i) = some (.int k (zs.getD i 0))) ∧ ∀ n ∈ zs, (Lit.int k n).wf = true

set_option maxRecDepth 100000 in
set_option maxHeartbeats 1000000 in
/-- Outside the premises the law answers true at once. -/
theorem early (a0 : Option Addr) (n c : Nat) (a1 a2 a3 : Int) (w : World) (hn : n ≤ 1048576) (hnc : n ≤ c) (hc : c ≤ maxLen) (b1 : -9223372036854775808 ≤ a1 ∧ a1 ≤ 9223372036854775807) (b2 : -9223372036854775808 ≤ a2 ∧ a2 ≤ 9223372036854775807) (b3 : -9223372036854775808 ≤ a3 ∧ a3 ≤ 9223372036854775807)
    (g : 1048576 < c ∨ a3 < 0 ∨ 65536 < a3 ∨ a3 < n ∨ a1 < 0 ∨ a3 - n < a1 ∨ a2 < 0 ∨ a1 < a2) :
    Calls Try.prog 4 #[.slice a0 n c, .int .i64 a1, .int .i64 a2, .int .i64 a3] w fun e w' => e = .returned (.bool true) ∧ Below w.heap.size w w' := by
  unfold maxLen at hc
  by_cases e0 : (1048576 : Int) < (c : Int)
  · clear g
    go_enter Try.func4, Try.ntmps4
    go_wp2_with (first | (go_at_call 8; refine (Grow.bytes_yes _ _ _ _ _ _ _ (by omega)).mono ?_; rintro e w' ⟨rfl, rfl⟩))
    go_ret
    exact ⟨rfl, Below.refl _ _⟩
  by_cases e1 : a3 < 0
  · clear g
    go_enter Try.func4, Try.ntmps4
    go_wp2_with (first | (go_at_call 8; refine (Grow.bytes_yes _ _ _ _ _ _ _ (by omega)).mono ?_; rintro e w' ⟨rfl, rfl⟩))
    go_ret
    exact ⟨rfl, Below.refl _ _⟩
  by_cases e2 : 65536 < a3
  · clear g
    go_enter Try.func4, Try.ntmps4
    go_wp2_with (first | (go_at_call 8; refine (Grow.bytes_yes _ _ _ _ _ _ _ (by omega)).mono ?_; rintro e w' ⟨rfl, rfl⟩))
    go_ret
    exact ⟨rfl, Below.refl _ _⟩
  by_cases e3 : a3 < (n : Int)
  · clear g
    go_enter Try.func4, Try.ntmps4
    go_wp2_with (first | (go_at_call 8; refine (Grow.bytes_yes _ _ _ _ _ _ _ (by omega)).mono ?_; rintro e w' ⟨rfl, rfl⟩))
    go_ret
    exact ⟨rfl, Below.refl _ _⟩
  by_cases e4 : a1 < 0
  · clear g
    go_enter Try.func4, Try.ntmps4
    go_wp2_with (first | (go_at_call 8; refine (Grow.bytes_yes _ _ _ _ _ _ _ (by omega)).mono ?_; rintro e w' ⟨rfl, rfl⟩))
    go_ret
    exact ⟨rfl, Below.refl _ _⟩
  by_cases e5 : a3 - (n : Int) < a1
  · clear g
    go_enter Try.func4, Try.ntmps4
    go_wp2_with (first | (go_at_call 8; refine (Grow.bytes_yes _ _ _ _ _ _ _ (by omega)).mono ?_; rintro e w' ⟨rfl, rfl⟩))
    go_ret
    exact ⟨rfl, Below.refl _ _⟩
  by_cases e6 : a2 < 0
  · clear g
    go_enter Try.func4, Try.ntmps4
    go_wp2_with (first | (go_at_call 8; refine (Grow.bytes_yes _ _ _ _ _ _ _ (by omega)).mono ?_; rintro e w' ⟨rfl, rfl⟩))
    go_ret
    exact ⟨rfl, Below.refl _ _⟩
  by_cases e7 : a1 < a2
  · clear g
    go_enter Try.func4, Try.ntmps4
    go_wp2_with (first | (go_at_call 8; refine (Grow.bytes_yes _ _ _ _ _ _ _ (by omega)).mono ?_; rintro e w' ⟨rfl, rfl⟩))
    go_ret
    exact ⟨rfl, Below.refl _ _⟩
  · exfalso; omega

/-! ### STEP 1: THE WALK: the Go text returns true, AND WRITES NOTHING THAT WAS THERE: 'Below w.heap.size w w'' (Derived/Below.lean: '.refl', '.alloc', '.drew', '.setCell' at a new block, '.trans'). Open each 'IsRow' by 'rcases' AHEAD of 'go_enter'; part every test ahead of the walk. -/
theorem walk (a0 : Option Addr) (len0 cap0 : Nat) (z0 : List Int) (a1 : Int) (a2 : Int) (a3 : Int) (w : World) (w0 : IsRow .u8 w a0 len0 cap0 z0) (w1 : (Lit.int .i64 a1).wf = true) (w2 : (Lit.int .i64 a2).wf = true) (w3 : (Lit.int .i64 a3).wf = true) :
    Calls Try.prog 4 #[.slice a0 len0 cap0, .int .i64 a1, .int .i64 a2, .int .i64 a3] w fun e w' => e = .returned (.bool true) ∧ Below w.heap.size w w' := by
  have b1 := bounds_i64 w1
  have b2 := bounds_i64 w2
  have b3 := bounds_i64 w3
  clear w1 w2 w3
  have hle : len0 ≤ cap0 ∧ cap0 ≤ maxLen := by
    rcases w0 with ⟨_, rfl, rfl, _⟩ | ⟨_, _, h1, h2, _⟩
    · exact ⟨Nat.le_refl _, Nat.zero_le _⟩
    · exact ⟨h1, h2⟩
  by_cases g1 : 1048576 < len0
  · clear w0
    obtain ⟨q1, q2⟩ := hle
    go_enter Try.func4, Try.ntmps4
    go_wp2_with (first | (go_at_call 8; refine (Grow.bytes_no _ _ _ _ _ _ _ g1 (Nat.le_trans q1 q2)).mono ?_; rintro e w' ⟨rfl, rfl⟩))
    go_ret
    exact ⟨rfl, Below.refl _ _⟩
  by_cases g2 : 1048576 < cap0 ∨ a3 < 0 ∨ 65536 < a3 ∨ a3 < len0 ∨ a1 < 0 ∨ a3 - len0 < a1 ∨ a2 < 0 ∨ a1 < a2
  · exact early a0 len0 cap0 a1 a2 a3 w (by omega) hle.1 hle.2 b1 b2 b3 g2
  · obtain ⟨m, rfl⟩ := Int.eq_ofNat_of_zero_le (a := a1) (by omega)
    obtain ⟨s, rfl⟩ := Int.eq_ofNat_of_zero_le (a := a2) (by omega)
    obtain ⟨l, rfl⟩ := Int.eq_ofNat_of_zero_le (a := a3) (by omega)
    by_cases h0 : len0 = 0
    · have ha : a0 = none → cap0 = 0 := by
        rcases w0 with ⟨_, _, h, _⟩ | ⟨x, h, _⟩
        · exact fun _ => h
        · intro e; rw [e] at h; cases h
      by_cases hr : len0 + m ≤ cap0
      · exact Grow.shares_room0 a0 len0 cap0 m s l w h0 ha (by omega) (by omega) (by omega) (by omega) hr
      · exact Grow.shares_new0 a0 len0 cap0 m s l w h0 ha (by omega) (by omega) (by omega) (by omega) (by omega)
    · rcases w0 with ⟨_, h, _, _⟩ | ⟨x, rfl, hl, hm, hz, hcell, _⟩
      · exact absurd h h0
      · obtain ⟨b, off, spot⟩ := x
        have hc0 := hcell 0 (by omega)
        have hspot : spot = none := by simpa [Addr.add] using World.cell?_spot hc0
        subst hspot
        have hcell' : ∀ k, k < len0 → w.cell? ⟨b, off + k, none⟩ = some (.int .u8 ((z0.take len0).getD k 0)) := by
          intro k hk
          have h := hcell k (by omega)
          rw [Grow.add_mk] at h
          rw [h, List.getD_eq_getElem?_getD, List.getD_eq_getElem?_getD, List.getElem?_take, if_pos hk]
        by_cases hr : len0 + m ≤ cap0
        · exact Grow.shares_room b off len0 cap0 m s l (z0.take len0) w (by simp; omega) (by omega) hl (by omega) (by omega) (by omega) (by omega) hr hcell'
        · exact Grow.shares_new b off len0 cap0 m s l (z0.take len0) w (by simp; omega) (by omega) hl (by omega) (by omega) (by omega) (by omega) (by omega) hcell'

/-! ### THE ROW's STEP: WRITTEN OUT: LEAVE IT -/
set_option maxRecDepth 100000 in
theorem lifted (os : Os) (started : os.Started) (H : Type) (enc : TypeId × Value → H) :
    ReturnsInHanded {} Try.checked os 4 .any (Rows.fnGrowSharesOnlyWhenRoomAndSettlesSpec.pre6 enc Try.prog Try.f4 Rows.fnGrowSharesOnlyWhenRoomAndSettlesRow.domain false) (Rows.fnGrowSharesOnlyWhenRoomAndSettlesSpec.post enc Try.prog Try.f4 false true false false) := by
  refine returnsInHanded_of_change (C := Try.checked) own started (by kernel_rfl) Try.func4
    (ChangeSpec.witness6 (enc := enc) (C := Try.checked) false ⟨#[], #[.slice none 0 0, .int .i64 0, .int .i64 0, .int .i64 0], []⟩ 8 (by kernel_rfl) (by kernel_rfl) (by kernel_rfl) (by kernel_rfl)) ?_
  intro W base args ds gs before hval0 hW hcnd _
  have hval : ∀ (j : Nat) t v, Try.f4.params[j]? = some t → args[j]? = some v → Value.okWide Try.prog W .any base t v := hval0
  have hW' := hW
  obtain ⟨p, q, hA0, hV, rfl, hfz, hnd⟩ := hW
  have hA : DataW.TrodAll enc Try.prog W 0 (fun _ => true) true Try.f4.params.toList args.toList ds p := hA0
  rw [Try.params4] at hA hval
  obtain ⟨v0, vs0, d0, ds0, p0, q0, hargs, rfl, rfl, h0, r0⟩ := trodAll_cons hA
  obtain ⟨v1, vs1, d1, ds1, p1, q1, rfl, rfl, rfl, h1, r1⟩ := trodAll_cons r0
  obtain ⟨v2, vs2, d2, ds2, p2, q2, rfl, rfl, rfl, h2, r2⟩ := trodAll_cons r1
  obtain ⟨v3, vs3, d3, ds3, p3, q3, rfl, rfl, rfl, h3, r3⟩ := trodAll_cons r2
  obtain ⟨rfl, rfl, rfl⟩ := trodAll_nil r3
  obtain rfl : args = #[v0, v1, v2, v3] := by cases args; simp_all
  obtain ⟨rfl, rfl⟩ := trodVars_none hV
  obtain ⟨a0, len0, cap0, rfl⟩ := okWide_slice Try.underlying22 (hval 0 22 v0 rfl rfl)
  have k0 := h0
  have lt0 : ∀ x ∈ p0, x.block < W.heap.size := by obtain ⟨m, hm⟩ := k0; exact DataW.trod_lt m _ _ _ hm
  obtain ⟨z0, w0⟩ : ∃ zs, IsRow .u8 W a0 len0 cap0 zs := by
    obtain ⟨fuel, hf⟩ := h0
    rcases open_ints Try.underlying22 Try.underlying5 (by kernel_rfl) hf with ⟨hcs, _⟩ | ⟨x, l, c, zs, hcs, _, hl, hm, hz, _, hcell, hwz⟩
    · simp [Value.cells] at hcs
      obtain ⟨rfl, rfl, rfl⟩ := hcs
      exact ⟨[], .inl ⟨rfl, rfl, rfl, rfl⟩⟩
    · simp [Value.cells] at hcs
      obtain ⟨rfl, rfl, rfl⟩ := hcs
      exact ⟨zs, .inr ⟨_, rfl, hl, hm, by simpa using hz, hcell, hwz⟩⟩
  obtain ⟨a1, rfl, rfl, rfl, w1⟩ := open_int Try.underlying3 (hval 1 3 v1 rfl rfl) h1
  obtain ⟨a2, rfl, rfl, rfl, w2⟩ := open_int Try.underlying3 (hval 2 3 v2 rfl rfl) h2
  obtain ⟨a3, rfl, rfl, rfl, w3⟩ := open_int Try.underlying3 (hval 3 3 v3 rfl rfl) h3
  clear hA0 hval0
  refine (walk a0 len0 cap0 z0 a1 a2 a3 W w0 w1 w2 w3).mono fun e W' ⟨he, bel⟩ => ?_
  subst he
  exact ⟨_, rfl, _, _, _, [], _, [], hW', trodAll_mk1 (shut_bool Try.underlying4 _), (trodAll_cons_mk (Below.trod laidOut (by kernel_rfl) (of_decide_eq_true (by kernel_rfl)) k0 bel lt0) (trodAll_cons_mk (shut_int Try.underlying3 w1) (trodAll_cons_mk (shut_int Try.underlying3 w2) (trodAll_cons_mk (shut_int Try.underlying3 w3) trodAll_mk0)))), rfl, bel.frame _, fun h => by cases h⟩

theorem over : Rows.fnGrowSharesOnlyWhenRoomAndSettlesRow.holds Try.pinned (OpenSpec.ofChange Rows.fnGrowSharesOnlyWhenRoomAndSettlesSpec) :=
  OpenClaim.holds_of_wide 4 Try.f4 rfl rfl rfl rfl rfl rfl rfl ⟨rfl, rfl, rfl, rfl, rfl⟩ rfl rfl rfl rfl rfl (by kernel_rfl) Try.func4 (by kernel_rfl)
    (of_decide_eq_true (by kernel_rfl)) (by unfold Func.isWrapper; first | (rw [if_pos (by decide +kernel)]; kernel_rfl) | (rw [if_neg (by decide +kernel)]; exact ⟨rfl, rfl⟩))
    (fun os started H enc _ => lifted os started H enc)

/-- ████ THE STATEMENT ████ -/
theorem proved : Rows.FnGrowSharesOnlyWhenRoomAndSettlesSaid := over
end Go.Proofs.Qxb6630342a.fnGrowSharesOnlyWhenRoomAndSettles
