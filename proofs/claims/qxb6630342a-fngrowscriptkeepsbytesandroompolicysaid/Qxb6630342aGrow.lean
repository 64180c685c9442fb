/- The contracts of cloneRoom and Grow, for both laws of this seat. -/
import Derived.Test.Qxb6630342aRows
import Derived.WalkKit
import Derived.ProofKit
import Derived.OpenShut
import Derived.Below
import Derived.Laws.CopyOwn
import Derived.Outline
import Derived.WalkSpells
import Derived.WalkLawsBesides
namespace Go.Proofs.Qxb6630342a.Grow
open Go.RowKit
set_option linter.unusedVariables false

theorem info5 : (Try.prog.info? 5).map (fun i => (i.zero, i.size, i.bytes)) = some (some (.int .u8 0), 1, 1) := by kernel_rfl
theorem size5 : (Try.prog.info? 5).map (·.size) = some 1 := by kernel_rfl

theorem made_eq (z : Value) (n : Nat) : madeCells #[z] n = (List.replicate n z).toArray := by
  unfold madeCells
  apply Array.ext
  · simp
  · intro i h1 h2
    simp [Nat.mod_one]

/-- c bytes of nought -/
def zerosL (c : Nat) : List Value := List.replicate c (Value.int .u8 0)

theorem run_make5 (n c : Nat) (h : n ≤ c) (hc : c ≤ 4194304) (w : World) :
    (Instr.makeSlice 22 (.int .i64 (n : Int)) (.int .i64 (c : Int))).run Try.prog w = .ok (.slice (some ⟨w.heap.size, 0, none⟩) n c) (w.alloc (.cells (zerosL c).toArray 5)) := by
  obtain ⟨i, hi, hz, hs, hb⟩ := info_parts info5
  have hr := run_make (P := Try.prog) w 22 5 i (.int .u8 0) Try.underlying22 hi hz .i64 .i64 n c (by omega) (by omega) (by rw [hb]; omega) (by omega)
  simp only [Int.toNat_natCast, hs, Nat.mul_one] at hr
  rw [hr]
  show _ = Result.ok _ (w.alloc (.cells (List.replicate c (Value.int .u8 0)).toArray 5))
  rw [← made_eq]
  rfl

theorem run_make5' (n c : Nat) (C : Int) (hC : C = (c : Int)) (h : n ≤ c) (hc : c ≤ 4194304) (w : World) :
    (Instr.makeSlice 22 (.int .i64 (n : Int)) (.int .i64 C)).run Try.prog w = .ok (.slice (some ⟨w.heap.size, 0, none⟩) n c) (w.alloc (.cells (zerosL c).toArray 5)) := by
  subst hC; exact run_make5 n c h hc w

/-- The slice at 'ao' holds the bytes 'zs'. -/
def Src (w : World) (ao : Option Addr) (zs : List Int) : Prop :=
  0 < zs.length → ∃ ad, ao = some ad ∧ ∀ (j : Nat) (a : Int), zs[j]? = some a → w.cell? (ad.add j) = some (.int .u8 a)

theorem Src.below {w w1 : World} {ao : Option Addr} {zs : List Int} (h : Src w ao zs) (hb : Below w.heap.size w w1) : Src w1 ao zs := by
  intro hp
  obtain ⟨ad, rfl, hc⟩ := h hp
  exact ⟨ad, rfl, fun j v hj => (hb.cell (World.block_lt_of_cell? w _ (hc j v hj))).trans (hc j v hj)⟩

theorem own_splice {w : World} {g n c B : Nat} {zs : List Int} (hB : B ≤ g) (hn : zs.length = n) (hnc : n ≤ c) (hc : c ≤ 4194304)
    (h : w.heap[g]? = some (.cells (splice (zerosL c) 0 (zs.map (Value.int .u8))).toArray 5 (0, 0))) :
    w.ownsRow B 5 1 (.slice (some ⟨g, 0, none⟩) n c) n (zs.map (Value.int .u8)) := by
  refine ⟨by simp [hn], .inr ⟨g, c, _, rfl, hB, h, hnc, by unfold maxLen; omega, ?_, ?_⟩⟩
  · simp [splice, zerosL, hn]; omega
  · simp [splice, hn]

theorem slice_nil (w : World) (a : Option Addr) (n c n' c' : Nat) : (binOp .eql 22 (.slice a n c) (.slice none n' c')).run Try.prog w = .ok (.bool a.isNone) w :=
  Lib.run_eql_slice_nil w 22 5 a n c n' c' Try.underlying22

theorem clone_nil (w : World) : Calls Try.prog 6 #[.slice none 0 0] w fun e w' => e = .returned (.slice none 0 0) ∧ w = w' := by
  have hnil := slice_nil
  go_enter Try.func6, Try.ntmps6
  go_wp2
  go_ret
  exact ⟨rfl, rfl⟩

theorem clone_some (x : Addr) (n c : Nat) (zs : List Int) (w : World) (hn : zs.length = n) (hnc : n ≤ c) (hc : c ≤ 1048576) (hs : Src w (some x) zs) :
    Calls Try.prog 6 #[.slice (some x) n c] w fun e w' => e = .returned (.slice (some ⟨w.heap.size, 0, none⟩) n c) ∧
      w'.ownsRow w.heap.size 5 1 (.slice (some ⟨w.heap.size, 0, none⟩) n c) n (zs.map (Value.int .u8)) ∧ Below w.heap.size w w' := by
  have hnil := slice_nil
  have hmk := run_make5 n c hnc (by omega)
  have hb0 : Below w.heap.size w (w.alloc (.cells (zerosL c).toArray 5)) := (Below.refl _ _).alloc (Nat.le_refl _) _
  have hs1 := hs.below hb0
  have H1 : Hid (Src (w.alloc (.cells (zerosL c).toArray 5)) (some x) zs) := hs1
  have H2 : Hid (zs.length = n) := hn
  clear hs hs1 hn
  go_enter Try.func6, Try.ntmps6
  go_wp2_with (first | (refine wpList_copy_splice rfl (.tmp 11) (.tmp 12) 22 22 rfl 5 Try.underlying22 size5 _ _ _ _ _ _ rfl rfl w.heap.size 0 (zerosL c) 5 ?c1 (zs.map (Value.int .u8)) ?c2 ?c3 ?c4 ?c5 w.heap.size w ?c6 ?c7 ?_))
  case c1 => exact heap_alloc_new w _
  case c2 => rw [List.length_map, H2.out]; exact (Nat.min_self n).symm
  case c3 =>
    intro hp
    obtain ⟨ad, had, hc'⟩ := H1.out hp
    cases had
    exact hc'
  case c4 => have := H2.out; simp [zerosL]; omega
  case c5 => exact ints_oneCell .u8 zs
  case c6 => exact hb0
  case c7 => exact Nat.le_refl _
  intro w2 hg2 hb2
  go_wp2
  go_ret
  exact ⟨rfl, own_splice (Nat.le_refl _) H2.out hnc (by omega) hg2.out, hb2⟩

/-- Grow where there is room: the same slice; the world stands. -/
theorem grow_room (ao : Option Addr) (n c m l : Nat) (w : World) (hn : n ≤ 65536) (hm : m ≤ 65536) (h : n + m ≤ c) (hc : c ≤ 1048576) :
    Calls Try.prog 7 #[.slice ao n c, .int .i64 (m : Int), .int .i64 (l : Int)] w fun e w' => e = .returned (.slice ao n c) ∧ w = w' := by
  have h' : (n : Int) + (m : Int) ≤ (c : Int) := by omega
  go_enter Try.func7, Try.ntmps7
  go_wp2
  go_ret
  exact ⟨rfl, rfl⟩

theorem grow_need (ao : Option Addr) (n c m l : Nat) (zs : List Int) (w : World) (hz : zs.length = n) (hl : l ≤ 65536) (hnl : n + m ≤ l) (h : c < n + m) (hs : Src w ao zs) (h1 : n + m < l / 16) (h2 : 2 * c < n + m) :
    Calls Try.prog 7 #[.slice ao n c, .int .i64 (m : Int), .int .i64 (l : Int)] w fun e w' => e = .returned (.slice (some ⟨w.heap.size, 0, none⟩) n (n + m)) ∧
      w'.ownsRow w.heap.size 5 1 (.slice (some ⟨w.heap.size, 0, none⟩) n (n + m)) n (zs.map (Value.int .u8)) ∧ Below w.heap.size w w' := by
    have h' : (c : Int) < (n : Int) + (m : Int) := by omega
    have h1' : (n : Int) + (m : Int) < (l : Int) / 16 := by omega
    have h2' : 2 * (c : Int) < (n : Int) + (m : Int) := by omega
    have hmk := run_make5' n (n + m) ((n : Int) + (m : Int)) (by omega) (by omega) (by omega)
    have hb0 : Below w.heap.size w (w.alloc (.cells (zerosL (n + m)).toArray 5)) := (Below.refl _ _).alloc (Nat.le_refl _) _
    have H1 : Hid (Src (w.alloc (.cells (zerosL (n + m)).toArray 5)) ao zs) := hs.below hb0
    have H2 : Hid (zs.length = n) := hz
    clear hs hz
    go_enter Try.func7, Try.ntmps7
    go_wp2_with (first | (refine wpList_copy_splice rfl (.tmp 33) (.tmp 34) 22 22 rfl 5 Try.underlying22 size5 _ _ _ _ _ _ rfl rfl w.heap.size 0 (zerosL (n + m)) 5 ?c1 (zs.map (Value.int .u8)) ?c2 ?c3 ?c4 ?c5 w.heap.size w ?c6 ?c7 ?_))
    case c1 => exact heap_alloc_new w _
    case c2 => rw [List.length_map, H2.out]; exact (Nat.min_self n).symm
    case c3 => exact H1.out
    case c4 => have := H2.out; simp [zerosL]; omega
    case c5 => exact ints_oneCell .u8 zs
    case c6 => exact hb0
    case c7 => exact Nat.le_refl _
    intro w2 hg2 hb2
    go_wp2
    go_ret
    exact ⟨rfl, own_splice (Nat.le_refl _) H2.out (by omega) (by omega) hg2.out, hb2⟩

theorem grow_twice (ao : Option Addr) (n c m l : Nat) (zs : List Int) (w : World) (hz : zs.length = n) (hl : l ≤ 65536) (hnl : n + m ≤ l) (h : c < n + m) (hs : Src w ao zs) (h1 : n + m < l / 16) (h2 : n + m ≤ 2 * c) :
    Calls Try.prog 7 #[.slice ao n c, .int .i64 (m : Int), .int .i64 (l : Int)] w fun e w' => e = .returned (.slice (some ⟨w.heap.size, 0, none⟩) n (2 * c)) ∧
      w'.ownsRow w.heap.size 5 1 (.slice (some ⟨w.heap.size, 0, none⟩) n (2 * c)) n (zs.map (Value.int .u8)) ∧ Below w.heap.size w w' := by
    have h' : (c : Int) < (n : Int) + (m : Int) := by omega
    have h1' : (n : Int) + (m : Int) < (l : Int) / 16 := by omega
    have h2' : (n : Int) + (m : Int) ≤ 2 * (c : Int) := by omega
    have hmk := run_make5' n (2 * c) (2 * (c : Int)) (by omega) (by omega) (by omega)
    have hb0 : Below w.heap.size w (w.alloc (.cells (zerosL (2 * c)).toArray 5)) := (Below.refl _ _).alloc (Nat.le_refl _) _
    have H1 : Hid (Src (w.alloc (.cells (zerosL (2 * c)).toArray 5)) ao zs) := hs.below hb0
    have H2 : Hid (zs.length = n) := hz
    clear hs hz
    go_enter Try.func7, Try.ntmps7
    go_wp2_with (first | (refine wpList_copy_splice rfl (.tmp 33) (.tmp 34) 22 22 rfl 5 Try.underlying22 size5 _ _ _ _ _ _ rfl rfl w.heap.size 0 (zerosL (2 * c)) 5 ?c1 (zs.map (Value.int .u8)) ?c2 ?c3 ?c4 ?c5 w.heap.size w ?c6 ?c7 ?_))
    case c1 => exact heap_alloc_new w _
    case c2 => rw [List.length_map, H2.out]; exact (Nat.min_self n).symm
    case c3 => exact H1.out
    case c4 => have := H2.out; simp [zerosL]; omega
    case c5 => exact ints_oneCell .u8 zs
    case c6 => exact hb0
    case c7 => exact Nat.le_refl _
    intro w2 hg2 hb2
    go_wp2
    go_ret
    exact ⟨rfl, own_splice (Nat.le_refl _) H2.out (by omega) (by omega) hg2.out, hb2⟩

theorem grow_limit (ao : Option Addr) (n c m l : Nat) (zs : List Int) (w : World) (hz : zs.length = n) (hl : l ≤ 65536) (hnl : n + m ≤ l) (h : c < n + m) (hs : Src w ao zs) (h1 : l / 16 ≤ n + m) :
    Calls Try.prog 7 #[.slice ao n c, .int .i64 (m : Int), .int .i64 (l : Int)] w fun e w' => e = .returned (.slice (some ⟨w.heap.size, 0, none⟩) n l) ∧
      w'.ownsRow w.heap.size 5 1 (.slice (some ⟨w.heap.size, 0, none⟩) n l) n (zs.map (Value.int .u8)) ∧ Below w.heap.size w w' := by
    have h' : (c : Int) < (n : Int) + (m : Int) := by omega
    have h1' : (l : Int) / 16 ≤ (n : Int) + (m : Int) := by omega
    have hmk := run_make5' n l (l : Int) (by omega) (by omega) (by omega)
    have hb0 : Below w.heap.size w (w.alloc (.cells (zerosL l).toArray 5)) := (Below.refl _ _).alloc (Nat.le_refl _) _
    have H1 : Hid (Src (w.alloc (.cells (zerosL l).toArray 5)) ao zs) := hs.below hb0
    have H2 : Hid (zs.length = n) := hz
    clear hs hz
    go_enter Try.func7, Try.ntmps7
    go_wp2_with (first | (refine wpList_copy_splice rfl (.tmp 33) (.tmp 34) 22 22 rfl 5 Try.underlying22 size5 _ _ _ _ _ _ rfl rfl w.heap.size 0 (zerosL l) 5 ?c1 (zs.map (Value.int .u8)) ?c2 ?c3 ?c4 ?c5 w.heap.size w ?c6 ?c7 ?_))
    case c1 => exact heap_alloc_new w _
    case c2 => rw [List.length_map, H2.out]; exact (Nat.min_self n).symm
    case c3 => exact H1.out
    case c4 => have := H2.out; simp [zerosL]; omega
    case c5 => exact ints_oneCell .u8 zs
    case c6 => exact hb0
    case c7 => exact Nat.le_refl _
    intro w2 hg2 hb2
    go_wp2
    go_ret
    exact ⟨rfl, own_splice (Nat.le_refl _) H2.out (by omega) (by omega) hg2.out, hb2⟩


end Go.Proofs.Qxb6630342a.Grow
