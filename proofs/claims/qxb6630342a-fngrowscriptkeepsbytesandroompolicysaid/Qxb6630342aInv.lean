/- What the script's loops keep: the text 'cur' that it grows, and the row 'want' beside it. No walk here. -/
import Derived.Test.Qxb6630342aShares
import Derived.OneCell
namespace Go.Proofs.Qxb6630342a.Grow
open Go.RowKit
set_option linter.unusedVariables false

/-- The row 'want': the bytes ws, then noughts, T cells in all. -/
def wantL (ws : List Int) (T : Nat) : List Value := ws.map (Value.int .u8) ++ List.replicate (T - ws.length) (Value.int .u8 0)

theorem wantL_length {ws : List Int} {T : Nat} (h : ws.length ≤ T) : (wantL ws T).length = T := by simp [wantL]; omega

theorem wantL_lt {ws : List Int} {T k : Nat} (h : k < ws.length) : (wantL ws T)[k]? = some (.int .u8 (ws.getD k 0)) := by
  unfold wantL
  rw [List.getElem?_append_left (by simpa using h), List.getElem?_map, List.getD_eq_getElem?_getD, List.getElem?_eq_getElem h]
  rfl

theorem wantL_some {ws : List Int} {T k : Nat} (h : ws.length ≤ T) (hk : k < T) : ∃ v, (wantL ws T)[k]? = some v :=
  ⟨_, List.getElem?_eq_getElem (by rw [wantL_length h]; exact hk)⟩

theorem wantL_set {ws : List Int} {T : Nat} (h : ws.length < T) (v : Int) : (wantL ws T).set ws.length (.int .u8 v) = wantL (ws ++ [v]) T := by
  unfold wantL
  rw [List.set_append_right _ _ (by simp)]
  obtain ⟨d, hd⟩ : ∃ d, T - ws.length = d + 1 := ⟨T - ws.length - 1, by omega⟩
  have hd' : T - (ws ++ [v]).length = d := by simp; omega
  rw [hd, hd', List.replicate_succ]
  simp

def Inv (B W T : Nat) (w0 w : World) (ao : Option Addr) (n c : Nat) (zs ws : List Int) : Prop :=
  zs.length = n ∧ ws.length ≤ T ∧ B ≤ W ∧ Below B w0 w ∧ w.heap[W]? = some (.cells (wantL ws T).toArray 5 (0, 0)) ∧
    w.ownsRow B 5 1 (.slice ao n c) n (zs.map (Value.int .u8)) ∧ (Value.slice ao n c).ownBlock ≠ some W

section
variable {B W T : Nat} {w0 w : World} {ao : Option Addr} {n c : Nat} {zs ws : List Int}

theorem Inv.drewN (h : Inv B W T w0 w ao n c zs ws) (q : Nat) : Inv B W T w0 (w.drewN q) ao n c zs ws :=
  ⟨h.1, h.2.1, h.2.2.1, below_drewN h.2.2.2.1 q, h.2.2.2.2.1, h.2.2.2.2.2.1, h.2.2.2.2.2.2⟩

theorem Inv.below (h : Inv B W T w0 w ao n c zs ws) : Below B w0 w := h.2.2.2.1
theorem Inv.lt (h : Inv B W T w0 w ao n c zs ws) : W < w.heap.size := lt_of_block h.2.2.2.2.1
theorem Inv.caps (h : Inv B W T w0 w ao n c zs ws) : n ≤ c := by
  rcases h.2.2.2.2.2.1.2 with ⟨h', h2⟩ | ⟨g', cap', cur, h', _, hg, h3, _⟩
  · omega
  · simp only [Value.slice.injEq] at h'; omega

/-- Where cur lies, if it has room at all. -/
theorem Inv.addr (h : Inv B W T w0 w ao n c zs ws) (hc : 0 < c) : ∃ g, ao = some ⟨g, 0, none⟩ ∧ B ≤ g ∧ g ≠ W ∧ ∃ cur, w.heap[g]? = some (.cells cur 5 (0, 0)) := by
  rcases h.2.2.2.2.2.1.2 with ⟨h', h2⟩ | ⟨g', cap', cur, h', h3, hg, _⟩
  · simp only [Value.slice.injEq] at h'; omega
  · simp only [Value.slice.injEq] at h'
    obtain ⟨h1, _, _⟩ := h'
    refine ⟨g', h1, h3, ?_, cur, hg⟩
    intro e
    apply h.2.2.2.2.2.2
    rw [h1, e]; rfl

theorem Inv.cur (h : Inv B W T w0 w ao n c zs ws) {k : Nat} (hk : k < n) : ∃ g, ao = some ⟨g, 0, none⟩ ∧ w.cell? ⟨g, k, none⟩ = some (.int .u8 (zs.getD k 0)) := by
  obtain ⟨g, rfl, _⟩ := h.addr (by have := h.caps; omega)
  exact ⟨g, rfl, own_cell h.2.2.2.2.2.1 h.1 (Below.refl _ _) hk⟩

theorem Inv.src (h : Inv B W T w0 w ao n c zs ws) : Src w ao zs := by
  intro hp
  have hn := h.1
  obtain ⟨g, rfl, _⟩ := h.addr (by have := h.caps; omega)
  exact src_own h.2.2.2.2.2.1 h.1 hp

theorem Inv.want (h : Inv B W T w0 w ao n c zs ws) {k : Nat} (hk : k < ws.length) : w.cell? ⟨W, k, none⟩ = some (.int .u8 (ws.getD k 0)) := by
  rw [cell_of_row w W k _ 5 (0, 0) h.2.2.2.2.1, List.getElem?_toArray, wantL_lt hk]

theorem Inv.wantAny (h : Inv B W T w0 w ao n c zs ws) {k : Nat} (hk : k < T) : ∃ v, w.cell? ⟨W, k, none⟩ = some v := by
  rw [cell_of_row w W k _ 5 (0, 0) h.2.2.2.2.1, List.getElem?_toArray]
  exact wantL_some h.2.1 hk

theorem Inv.free (h : Inv B W T w0 w ao n c zs ws) (k : Nat) : w.frozen? ⟨W, k, none⟩ = false := frozen_of_row w W k _ 5 h.2.2.2.2.1

/-- Grow has made a new row: all else stands. -/
theorem Inv.grow {w' : World} {R : Nat} (h : Inv B W T w0 w ao n c zs ws) (hown : w'.ownsRow w.heap.size 5 1 (.slice (some ⟨w.heap.size, 0, none⟩) n R) n (zs.map (Value.int .u8))) (hb : Below w.heap.size w w') :
    Inv B W T w0 w' (some ⟨w.heap.size, 0, none⟩) n R zs ws := by
  have hlt := h.lt
  have hB : B ≤ w.heap.size := Nat.le_trans h.2.2.1 (Nat.le_of_lt hlt)
  refine ⟨h.1, h.2.1, h.2.2.1, h.below.trans (hb.mono hB), (hb.block W hlt).trans h.2.2.2.2.1, ?_, ?_⟩
  · refine ⟨hown.1, ?_⟩
    rcases hown.2 with h1 | ⟨g, cap, cur, h1, h2, h3⟩
    · exact .inl h1
    · exact .inr ⟨g, cap, cur, h1, Nat.le_trans hB h2, h3⟩
  · simp only [Value.ownBlock, ne_eq, Option.some.injEq]
    omega

/-- One byte into 'want'. -/
theorem Inv.store (h : Inv B W T w0 w ao n c zs ws) (hq : ws.length < T) (v : Int) :
    Inv B W T w0 (w.setCell ⟨W, ws.length, none⟩ (.int .u8 v)) ao n c zs (ws ++ [v]) := by
  refine ⟨h.1, by simp; omega, h.2.2.1, h.below.setCell h.2.2.1 _, ?_, ownsRow_setCell_other h.2.2.2.2.2.1 h.2.2.2.2.2.2 _, h.2.2.2.2.2.2⟩
  rw [heap_setCell_same w W ws.length _ 5 _ h.2.2.2.2.1, ← wantL_set hq v]
  simp

/-- One byte behind 'cur', within its room: laid in a block of its own first. -/
theorem Inv.append {w2 : World} {o : Obj} (h : Inv B W T w0 w ao n c zs ws) (v : Int) (hown : w2.ownsRow B 5 1 (.slice ao (n + 1) c) (n + 1) (zs.map (Value.int .u8) ++ [.int .u8 v]))
    (hg : (w.alloc o).grownBy w2 (Value.slice ao n c).ownBlock) (hc : n < c) : Inv B W T w0 w2 ao (n + 1) c (zs ++ [v]) ws := by
  obtain ⟨g, rfl, hBg, hgW, _⟩ := h.addr (by omega)
  have hlt := h.lt
  have hB : B ≤ w.heap.size := Nat.le_trans h.2.2.1 (Nat.le_of_lt hlt)
  refine ⟨by simp [h.1], h.2.1, h.2.2.1, ?_, ?_, by simpa using hown, h.2.2.2.2.2.2⟩
  · refine (h.below.alloc hB o).grown hg ?_ ?_
    · simp; omega
    · intro k hk; simp only [Value.ownBlock, Option.some.injEq] at hk; omega
  · rw [hg.block W (by simp; omega) (by simp only [Value.ownBlock, ne_eq, Option.some.injEq]; omega), Below.heap_alloc w o W hlt]
    exact h.2.2.2.2.1
end

/-- append WITHIN THE ROOM, the slice's address a letter: the law for the walk. -/
theorem wpList_append_within (w : World) {ops : Array Oper} {rest : List Oper} {o : Oper} {a : Act} {Q : Exit → Act → World → Prop}
    (hg : o.guard = none) (s x : Operand) (hop : o.op = Op.call { callee := Callee.builtin Builtin.append, args := #[s, x], argTypes := #[22, 22] })
    (B : Nat) (ao : Option Addr) (n c : Nat) (xs : List Value) (hs : a.eval s = .slice ao n c) (hown : w.ownsRow B 5 1 (.slice ao n c) n xs) (hc : n < c) (ad : Addr) (v : Value) (hx : a.eval x = .slice (some ad) 1 1)
    (hcell : w.cell? ad = some v) (h1 : v.oneCell' = true)
    (hK : ∀ w', w'.ownsRow B 5 1 (.slice ao (n + 1) c) (n + 1) (xs ++ [v]) → w.grownBy w' (Value.slice ao n c).ownBlock → wpList Try.prog ops Q rest (a.put o.dst (.slice ao (n + 1) c)) w') :
    wpList Try.prog ops Q (o :: rest) a w := by
  obtain ⟨i, hi, hz, hsz, hb⟩ := info_parts info5
  have hex : ∃ g, ao = some ⟨g, 0, none⟩ := by
    rcases hown.2 with ⟨h', _⟩ | ⟨g, cap, cur, h', _⟩
    · simp only [Value.slice.injEq] at h'; omega
    · simp only [Value.slice.injEq] at h'; exact ⟨g, h'.1⟩
  obtain ⟨g, rfl⟩ := hex
  refine wpList_append_fits w hg s x 22 hop B 5 i 1 Try.underlying22 hi hsz g n c xs hs hown ad 1 1 [v] hx (by simp) ?_ (by simpa using h1) (by omega) hK
  intro j u hj
  match j, hj with
  | 0, hj => simp at hj; subst hj; simpa [Addr.add] using hcell

/-- An index into a slice whose address is a letter, once it is known where it lies. -/
theorem idx_at (a : Option Addr) (n c k b off : Nat) (K : Int) (hK : K = (k : Int)) (ha : a = some ⟨b, off, none⟩) (hk : k < n) (w : World) :
    (Instr.indexAt 22 (.slice a n c) (.int .i64 K)).run Try.prog w = .ok (.pointer (some ⟨b, off + k, none⟩)) w := by
  obtain ⟨i, hi, hz, hsz, hb⟩ := info_parts info5
  subst ha hK
  rw [run_indexAt_slice w 22 _ n c .i64 _ (by kernel_rfl)]
  rw [if_pos ⟨by omega, by omega⟩]
  have he : Try.prog.elem 22 = 5 := by kernel_rfl
  rw [he]
  simp [sizeOf, typeInfo, hi, hsz, add_mk, Result.andThen]

end Go.Proofs.Qxb6630342a.Grow
