/- The plain laws of the partition: no Go in sight. -/
import Derived.Test.Qxb6630384aMoved
namespace Go.Proofs.Qxb6630384a.Moved
open Go.RowKit
set_option linter.unusedVariables false

theorem split_at {rs : List ByteArray} {k : Nat} (h : k < rs.length) : rs = rs.take k ++ rs.getD k ByteArray.empty :: rs.drop (k + 1) := by
  rw [getD_eq h, List.getElem_cons_drop, List.take_append_drop]

theorem filt_at {p : ByteArray → Bool} {rs : List ByteArray} {k : Nat} (h : k < rs.length) (e : p (rs.getD k ByteArray.empty) = true) :
    ((rs.take k).filter p).length < (rs.filter p).length ∧ (rs.filter p)[((rs.take k).filter p).length]? = some (rs.getD k ByteArray.empty) := by
  have hs := split_at h
  have hf : rs.filter p = (rs.take k).filter p ++ rs.getD k ByteArray.empty :: (rs.drop (k + 1)).filter p := by
    conv => lhs; rw [hs]
    rw [List.filter_append, List.filter_cons, if_pos e]
  rw [hf]
  exact ⟨by simp, by rw [List.getElem?_append_right (Nat.le_refl _)]; simp⟩

theorem got_stay {p : ByteArray → Bool} {rs : List ByteArray} {k : Nat} (h : k < rs.length) (e : p (rs.getD k ByteArray.empty) = true) :
    ((rs.take k).filter p).length < rs.length ∧ (movedL p rs).getD ((rs.take k).filter p).length ByteArray.empty = rs.getD k ByteArray.empty := by
  obtain ⟨h1, h2⟩ := filt_at h e
  have hl := List.length_filter_le p rs
  refine ⟨by omega, ?_⟩
  rw [movedL, List.getD_eq_getElem?_getD, List.getElem?_append_left h1, h2]; rfl

theorem got_move {p : ByteArray → Bool} {rs : List ByteArray} {k : Nat} (h : k < rs.length) (e : p (rs.getD k ByteArray.empty) = false) :
    (rs.filter p).length + ((rs.take k).filter (fun v => !p v)).length < rs.length ∧
      (movedL p rs).getD ((rs.filter p).length + ((rs.take k).filter (fun v => !p v)).length) ByteArray.empty = rs.getD k ByteArray.empty := by
  obtain ⟨h1, h2⟩ := filt_at (p := fun v => !p v) h (by rw [e]; rfl)
  have hl := movedL_length p rs
  rw [movedL, List.length_append] at hl
  refine ⟨by omega, ?_⟩
  rw [movedL, List.getD_eq_getElem?_getD, List.getElem?_append_right (by omega), Nat.add_sub_cancel_left, h2]; rfl

theorem stays_comm (bs ts : List ByteArray) : stays ts bs = stays bs ts := by
  funext v; unfold stays; cases has bs v <;> cases has ts v <;> rfl

theorem movedL_idem (p : ByteArray → Bool) (rs : List ByteArray) : movedL p (movedL p rs) = movedL p rs := by
  unfold movedL
  simp only [List.filter_append, List.filter_filter, Bool.and_self]
  have e1 : rs.filter (fun a => p a && !p a) = [] := by rw [List.filter_eq_nil_iff]; intro a _; cases p a <;> simp
  have e2 : rs.filter (fun a => (!p a) && p a) = [] := by rw [List.filter_eq_nil_iff]; intro a _; cases p a <;> simp
  rw [e1, e2]; simp

theorem cnt_moved (p : ByteArray → Bool) (rs : List ByteArray) (v : ByteArray) : cnt (movedL p rs) v = cnt rs v := by
  unfold cnt movedL
  induction rs with
  | nil => rfl
  | cons x xs ih =>
    simp only [List.filter_append, List.length_append, List.filter_cons] at *
    cases hp : p x <;> cases he : eqs x v <;> simp [he] at * <;> omega

theorem mem_moved {p : ByteArray → Bool} {rs : List ByteArray} {s : ByteArray} (h : s ∈ movedL p rs) : s ∈ rs := by
  unfold movedL at h
  rw [List.mem_append] at h
  rcases h with h | h <;> exact (List.mem_filter.1 h).1

/-- Ahead of one that stays nobody has moved. -/
theorem seen_none {p : ByteArray → Bool} {rs : List ByteArray} {k : Nat} (h : k < (movedL p rs).length) (e : p ((movedL p rs).getD k ByteArray.empty) = true) :
    ((movedL p rs).take k).any (fun v => !p v) = false := by
  have hk : k < (rs.filter p).length := by
    rcases Nat.lt_or_ge k (rs.filter p).length with h1 | h1
    · exact h1
    · exfalso
      have hm : (movedL p rs).getD k ByteArray.empty ∈ rs.filter (fun v => !p v) := by
        have h2 := h
        rw [movedL, List.length_append] at h2
        rw [movedL, List.getD_eq_getElem?_getD, List.getElem?_append_right h1, List.getElem?_eq_getElem (by omega)]
        exact List.getElem_mem (by omega)
      have := (List.mem_filter.1 hm).2
      rw [e] at this
      cases this
  rw [movedL, List.take_append_of_le_length (by omega), List.any_eq_false]
  intro x hx
  have := (List.mem_filter.1 (List.mem_of_mem_take hx)).2
  rw [this]; simp

theorem any_step {p : ByteArray → Bool} {ss : List ByteArray} {k : Nat} (h : k < ss.length) : (ss.take (k + 1)).any p = ((ss.take k).any p || p (ss.getD k ByteArray.empty)) := by
  rw [take_snoc h, List.any_append]
  generalize ss.getD k ByteArray.empty = x
  simp

/-- The contract of Moved, as its callers read it. -/
theorem moved_str (ar ab aa : Option Addr) (nr cr nb cb na ca : Nat) (rs bs ts : List ByteArray) (w : World) (hr : Str w ar nr rs) (hb : Str w ab nb bs) (ha : Str w aa na ts) (qr : nr ≤ 1048576) (qb : nb ≤ 1048576) (qa : na ≤ 1048576) :
    Calls Try.prog 7 #[.slice ar nr cr, .slice ab nb cb, .slice aa na ca] w fun e w' => ∃ ao c, e = .returned (.slice ao nr c) ∧ Str w' ao nr (movedL (stays bs ts) rs) ∧ Below w.heap.size w w' := by
  refine (moved_any ar ab aa nr cr nb cb na ca rs bs ts w hr hb ha qr qb qa).mono ?_
  rintro e w' ⟨v, rfl, hown, hbel⟩
  obtain ⟨ao, c, rfl, hs⟩ := str_of_row hown qr (fun s hs => hr.2.2.2 s (mem_moved hs))
  exact ⟨ao, c, rfl, hs, hbel⟩

end Go.Proofs.Qxb6630384a.Moved
