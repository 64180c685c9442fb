/- What the loops of Moved keep: two sets, two rows. No walk here. -/
import Derived.Test.Qxb6630384aHas
import Derived.Maps.OwnSet
import Derived.Maps.Views
import Derived.Maps.AppendAt
import Derived.Laws.AppendOwnNone
import Derived.OneCell
namespace Go.Proofs.Qxb6630384a.Moved
open Go.RowKit Go.WideMaps
set_option linter.unusedVariables false

theorem law9 : Maps.Keyed Try.prog 9 := Maps.string_keyed Try.underlying9
theorem zero4 (w : World) : (zeroValue 4).run Try.prog w = .ok (.bool false) w := by kernel_rfl

theorem make28 (k : IntKind) (n : Int) (w : World) : (Instr.makeMap 28 (some (.int k n))).run Try.prog w = .ok (.map (some w.heap.size)) (w.alloc (.map #[] 0)) := by
  simp [Instr.makeMap, run_underlying Try.underlying28, asInt, asIntOf, Result.andThen]

theorem elem_bool_inv {v : Value} {z : DataW Unit × List MemPlace} (h : plainElem Try.prog 4 v = some z) : ∃ x, v = .bool x ∧ z = (.lit (.bool x), []) := by
  unfold plainElem at h
  rw [Try.underlying4] at h
  split at h
  · cases h; exact ⟨_, rfl, rfl⟩
  · rename_i h1; cases h1
  · rename_i h1; cases h1
  · cases h

theorem eqs_iff (x v : ByteArray) : eqs x v = true ↔ x.data.toList = v.data.toList := by
  unfold eqs
  rw [ByteArray.toList_eq, ByteArray.toList_eq]
  simp

theorem eqs_eq {x v : ByteArray} (h : eqs x v = true) : x = v := Go.WideShapes.bytes_inj ((eqs_iff x v).1 h)

/-- Block b is a map of at most n entries: the set of the strings ss. -/
def IsSet (w : World) (b n : Nat) (ss : List ByteArray) : Prop :=
  ∃ D : DataW Unit, w.ownsMap Try.prog 9 (plainElem Try.prog 4) b n D ∧ Maps.IsMap D ∧ ∀ v : ByteArray, D.atKey (.string v.data.toList) (.lit (.bool false)) = .lit (.bool (has ss v))

theorem isSet_made (w : World) : IsSet (w.alloc (.map #[] 0)) w.heap.size 0 [] :=
  ⟨.map [], World.ownsMap_made _ _ _ _, Maps.isMap_empty, fun v => rfl⟩

theorem IsSet.kept {w w' : World} {b n : Nat} {ss : List ByteArray} {row : Option Nat} (h : IsSet w b n ss) (hg : w.grownBy w' row) (hne : some b ≠ row) : IsSet w' b n ss := by
  obtain ⟨D, h1, h2, h3⟩ := h
  exact ⟨D, h1.kept hg hne, h2, h3⟩

theorem IsSet.alloc {w : World} {b n : Nat} {ss : List ByteArray} (h : IsSet w b n ss) (o : Obj) : IsSet (w.alloc o) b n ss := by
  obtain ⟨D, h1, h2, h3⟩ := h
  exact ⟨D, h1.alloc o, h2, h3⟩

theorem IsSet.drewN {w : World} {b n : Nat} {ss : List ByteArray} (h : IsSet w b n ss) (q : Nat) : IsSet (w.drewN q) b n ss := h

theorem IsSet.lt {w : World} {b n : Nat} {ss : List ByteArray} (h : IsSet w b n ss) : b < w.heap.size := by
  obtain ⟨D, h1, _⟩ := h
  exact h1.lt

theorem put_step {D : DataW Unit} {ss : List ByteArray} (hm : Maps.IsMap D) (h : ∀ v : ByteArray, D.atKey (.string v.data.toList) (.lit (.bool false)) = .lit (.bool (has ss v))) (x v : ByteArray) :
    (D.put (.string x.data.toList) (.lit (.bool true))).atKey (.string v.data.toList) (.lit (.bool false)) = .lit (.bool (has (ss ++ [x]) v)) := by
  have e : has (ss ++ [x]) v = (has ss v || eqs x v) := by simp [has]
  rw [e]
  by_cases hx : x.data.toList = v.data.toList
  · rw [← hx, Maps.atKey_put_same hm (show WideAt.IsKeyLit (.string x.data.toList) from trivial), (eqs_iff x v).2 hx]; simp
  · rw [Maps.atKey_put_other (fun e => hx (by injection e with e; exact e.symm)), h v]
    have : eqs x v = false := by
      cases h2 : eqs x v
      · rfl
      · exact absurd ((eqs_iff x v).1 h2) hx
    rw [this]; simp

/-- 'm[x] = true' AT THE OPERATION. -/
theorem wpList_add (w : World) {ops : Array Oper} {rest : List Oper} {o : Oper} {a : Act} {Q : Exit → Act → World → Prop}
    (hg : o.guard = none) (m x v : Operand) (hop : o.op = Op.mapUpdate 28 m x v) (b n : Nat) (ss : List ByteArray)
    (hm : a.eval m = .map (some b)) (hset : IsSet w b n ss) (hn : n ≤ 1048576) (s : ByteArray) (hx : a.eval x = .string s) (hs : s.size ≤ maxLen) (hv : a.eval v = .bool true)
    (hK : ∀ w', IsSet w' b (n + 1) (ss ++ [s]) → w.grownBy w' (some b) → wpList Try.prog ops Q rest (a.put o.dst undef) w') :
    wpList Try.prog ops Q (o :: rest) a w := by
  obtain ⟨D, h1, h2, h3⟩ := hset
  refine wpList_mapUpdate_own w hg m x v 28 hop 9 4 law9 Try.underlying28 _ b n D hm h1 (by unfold maxLen; omega) _ _ _ hx hv (keyOf_string_mk Try.underlying9 hs) _ [] (plainElem_bool Try.underlying4 true) ?_
  intro w' h4 h5
  exact hK w' ⟨_, h4, h2.put _ _, put_step h2 h3 s⟩ h5

/-- 'm[x]' AT THE OPERATION. -/
theorem wpList_ask (w : World) {ops : Array Oper} {rest : List Oper} {o : Oper} {a : Act} {Q : Exit → Act → World → Prop}
    (hg : o.guard = none) (m x : Operand) (hop : o.op = Op.lookup 28 m x false) (b n : Nat) (ss : List ByteArray)
    (hm : a.eval m = .map (some b)) (hset : IsSet w b n ss) (s : ByteArray) (hx : a.eval x = .string s) (hs : s.size ≤ maxLen)
    (hK : wpList Try.prog ops Q rest (a.put o.dst (.bool (has ss s))) w) :
    wpList Try.prog ops Q (o :: rest) a w := by
  refine wpList_plain hg fun K' hK' => ?_
  obtain ⟨D, h1, h2, h3⟩ := hset
  obtain ⟨v, ps, hrun, hv⟩ := h1.lookup law9 Try.underlying28 (zero4 w) (plainElem_bool Try.underlying4 false) (keyOf_string_mk Try.underlying9 hs)
  obtain ⟨c, rfl, hc⟩ := elem_bool_inv hv
  rw [h3 s] at hc
  simp only [Prod.mk.injEq, DataW.lit.injEq, Lit.bool.injEq] at hc
  obtain ⟨rfl, _⟩ := hc
  unfold Oper.wp
  simp [execOp, hop, hm, hx, hrun, Result.andThen]
  exact hK' _ _ hK

/-! ### the two rows -/

def strs (ss : List ByteArray) : List Value := ss.map Value.string

/-- The rota split so far: 'next' and 'moved', in two rows, beside the two sets. -/
def Split (B b1 b2 n1 n2 : Nat) (w0 w : World) (v1 v2 : Value) (xs ys s1 s2 : List ByteArray) : Prop :=
  w.ownsRow B 9 1 v1 xs.length (strs xs) ∧ w.ownsRow B 9 1 v2 ys.length (strs ys) ∧ v1.ownBlock ≠ v2.ownBlock ∧ IsSet w b1 n1 s1 ∧ IsSet w b2 n2 s2 ∧ Below B w0 w ∧ B ≤ w.heap.size

section
variable {B b1 b2 n1 n2 : Nat} {w0 w : World} {v1 v2 : Value} {xs ys s1 s2 : List ByteArray}

theorem row_set {n : Nat} {v : Value} {b m : Nat} {zs : List Value} {ss : List ByteArray} (h : w.ownsRow B 9 1 v n zs) (hs : IsSet w b m ss) : some b ≠ v.ownBlock := by
  intro e
  obtain ⟨D, ⟨es, clock, hb, _⟩, _⟩ := hs
  rcases h.2 with ⟨rfl, _⟩ | ⟨g, cap, cur, rfl, _, hg, _⟩
  · cases e
  · simp only [Value.ownBlock, Option.some.injEq] at e
    subst e
    rw [hg] at hb
    cases hb

theorem row_old {n : Nat} {v : Value} {zs : List Value} (h : w.ownsRow B 9 1 v n zs) : v.ownBlock ≠ some w.heap.size ∧ v.ownBlock ≠ some (w.heap.size + 1) ∧ ∀ k, v.ownBlock = some k → B ≤ k := by
  refine ⟨fun e => ?_, fun e => ?_, fun k e => (h.lt k e).1⟩
  · have := (h.lt _ e).2; omega
  · have := (h.lt _ e).2; omega

theorem Split.next {o : Obj} {w' : World} {v' : Value} {x : ByteArray} (h : Split B b1 b2 n1 n2 w0 w v1 v2 xs ys s1 s2) (hown : w'.ownsRow B 9 1 v' (xs.length + 1) (strs xs ++ [.string x])) (hg : (w.alloc o).grownBy w' v1.ownBlock)
    (hloc : v'.ownBlock = v1.ownBlock ∨ v'.ownBlock = some (w.alloc o).heap.size) : Split B b1 b2 n1 n2 w0 w' v' v2 (xs ++ [x]) ys s1 s2 := by
  obtain ⟨h1, h2, h3, h4, h5, h6, h7⟩ := h
  have hz : (w.alloc o).heap.size = w.heap.size + 1 := by simp
  refine ⟨?_, (h2.alloc o).kept hg (.inr fun e => h3 e.symm), ?_, (h4.alloc o).kept hg (row_set h1 h4), (h5.alloc o).kept hg (row_set h1 h5), (h6.alloc h7 o).grown hg (by omega) (row_old h1).2.2, ?_⟩
  · simpa [strs] using hown
  · rcases hloc with e | e
    · rw [e]; exact h3
    · rw [e, hz]; exact fun e => (row_old h2).2.1 e.symm
  · have := hg.size; omega

theorem Split.moved {o : Obj} {w' : World} {v' : Value} {x : ByteArray} (h : Split B b1 b2 n1 n2 w0 w v1 v2 xs ys s1 s2) (hown : w'.ownsRow B 9 1 v' (ys.length + 1) (strs ys ++ [.string x])) (hg : (w.alloc o).grownBy w' v2.ownBlock)
    (hloc : v'.ownBlock = v2.ownBlock ∨ v'.ownBlock = some (w.alloc o).heap.size) : Split B b1 b2 n1 n2 w0 w' v1 v' xs (ys ++ [x]) s1 s2 := by
  obtain ⟨h1, h2, h3, h4, h5, h6, h7⟩ := h
  have hz : (w.alloc o).heap.size = w.heap.size + 1 := by simp
  refine ⟨(h1.alloc o).kept hg (.inr h3), ?_, ?_, (h4.alloc o).kept hg (row_set h2 h4), (h5.alloc o).kept hg (row_set h2 h5), (h6.alloc h7 o).grown hg (by omega) (row_old h2).2.2, ?_⟩
  · simpa [strs] using hown
  · rcases hloc with e | e
    · rw [e]; exact h3
    · rw [e, hz]; exact (row_old h1).2.1
  · have := hg.size; omega
end

/-- A row that is owned, as the callers read it. -/
theorem str_of_row {w : World} {B n : Nat} {v : Value} {ss : List ByteArray} (h : w.ownsRow B 9 1 v n (strs ss)) (hn : n ≤ 1048576) (hs : ∀ s ∈ ss, s.size ≤ maxLen) : ∃ ao c, v = .slice ao n c ∧ Str w ao n ss := by
  have hl : ss.length = n := by have := h.1; simpa [strs] using this
  rcases h.2 with ⟨rfl, h0⟩ | ⟨g, cap, cur, rfl, _⟩
  · subst h0
    exact ⟨none, 0, rfl, hl, by omega, fun k hk => by omega, hs⟩
  · refine ⟨_, cap, rfl, hl, by omega, fun k hk => ⟨g, 0, rfl, ?_⟩, hs⟩
    rw [Nat.zero_add, h.cellAt k (by omega), strs, List.getElem?_map, List.getD_eq_getElem?_getD, List.getElem?_eq_getElem (by omega)]
    rfl

theorem Str.below {w w1 : World} {a : Option Addr} {n : Nat} {ss : List ByteArray} (h : Str w a n ss) (hb : Below w.heap.size w w1) : Str w1 a n ss := by
  refine ⟨h.1, h.2.1, fun k hk => ?_, h.2.2.2⟩
  obtain ⟨b, off, ha, hc⟩ := h.2.2.1 k hk
  exact ⟨b, off, ha, (hb.cell (World.block_lt_of_cell? w _ hc)).trans hc⟩

end Go.Proofs.Qxb6630384a.Moved
