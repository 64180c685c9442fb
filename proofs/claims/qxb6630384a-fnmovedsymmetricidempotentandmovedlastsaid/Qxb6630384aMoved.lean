/- The contract of Moved. -/
import Derived.Test.Qxb6630384aParts
import Derived.Deep.DeepCutAuto
import Derived.RegionTactic
namespace Go.Proofs.Qxb6630384a.Moved
open Go.RowKit
set_option linter.unusedVariables false

def movedL (p : ByteArray → Bool) (rs : List ByteArray) : List ByteArray := rs.filter p ++ rs.filter (fun v => !p v)

theorem filt_in {p : ByteArray → Bool} {rs : List ByteArray} {k : Nat} (h : k < rs.length) (e : p (rs.getD k ByteArray.empty) = true) :
    (rs.take (k + 1)).filter p = (rs.take k).filter p ++ [rs.getD k ByteArray.empty] := by
  rw [take_snoc h, List.filter_append]
  generalize rs.getD k ByteArray.empty = x at *
  simp [e]

theorem filt_out {p : ByteArray → Bool} {rs : List ByteArray} {k : Nat} (h : k < rs.length) (e : p (rs.getD k ByteArray.empty) = false) :
    (rs.take (k + 1)).filter p = (rs.take k).filter p := by
  rw [take_snoc h, List.filter_append]
  generalize rs.getD k ByteArray.empty = x at *
  simp [e]

theorem filt_le (p : ByteArray → Bool) (rs : List ByteArray) (k : Nat) : ((rs.take k).filter p).length ≤ k := by
  have h1 := List.length_filter_le p (rs.take k)
  have h2 := List.length_take_le k rs
  omega

theorem movedL_length (p : ByteArray → Bool) (rs : List ByteArray) : (movedL p rs).length = rs.length := by
  unfold movedL
  induction rs with
  | nil => rfl
  | cons x xs ih =>
    simp only [List.length_append, List.filter_cons] at *
    cases p x <;> simp at * <;> omega

/-- Two sets, in two blocks of the call's own. -/
def Two (B : Nat) (w0 w : World) (b1 b2 n1 n2 : Nat) (s1 s2 : List ByteArray) : Prop :=
  IsSet w b1 n1 s1 ∧ IsSet w b2 n2 s2 ∧ b1 ≠ b2 ∧ B ≤ b1 ∧ B ≤ b2 ∧ Below B w0 w

theorem two_made (w : World) : Two w.heap.size w ((w.alloc (.map #[] 0)).alloc (.map #[] 0)).drew w.heap.size (w.heap.size + 1) 0 0 [] [] := by
  have h1 := (isSet_made w).alloc (.map #[] 0)
  have h2 := isSet_made (w.alloc (.map #[] 0))
  have hz : (w.alloc (.map #[] 0)).heap.size = w.heap.size + 1 := by simp
  rw [hz] at h2
  exact ⟨h1, h2, by omega, Nat.le_refl _, by omega, (((Below.refl _ w).alloc (Nat.le_refl _) _).alloc (by omega) _).drew⟩

theorem two_made' (w : World) : Two w.heap.size w ((w.alloc (.map #[] 0)).alloc (.map #[] 0)).drew (w.heap.size + 1) w.heap.size 0 0 [] [] := by
  obtain ⟨h1, h2, h3, h4, h5, h6⟩ := two_made w
  exact ⟨h2, h1, fun e => h3 e.symm, h5, h4, h6⟩

theorem str_at {w wr : World} {a : Option Addr} {n : Nat} {ss : List ByteArray} (h : Str w a n ss) (hb : Below w.heap.size w wr) (k c : Nat) (hk : k < n) :
    ∃ x, Hid (x = ss.getD k ByteArray.empty) ∧ x.size ≤ 9223372036854775807 ∧ ∃ b off, (∀ wx, (Instr.indexAt 22 (.slice a n c) (.int .i64 (k : Int))).run Try.prog wx = .ok (.pointer (some ⟨b, off + k, none⟩)) wx) ∧ wr.cell? ⟨b, off + k, none⟩ = some (.string x) := by
  obtain ⟨b, off, ha, hc⟩ := (h.below hb).2.2.1 k hk
  exact ⟨_, rfl, h.2.2.2 _ (getD_mem (by rw [h.1]; exact hk)), b, off, idx22 a n c k b off ha hk, hc⟩

theorem str_at24 {w wr : World} {a : Option Addr} {n : Nat} {ss : List ByteArray} (h : Str w a n ss) (hb : Below w.heap.size w wr) (k c : Nat) (hk : k < n) :
    ∃ x, Hid (x = ss.getD k ByteArray.empty) ∧ x.size ≤ 9223372036854775807 ∧ ∃ b off, (∀ wx, (Instr.indexAt 24 (.slice a n c) (.int .i64 (k : Int))).run Try.prog wx = .ok (.pointer (some ⟨b, off + k, none⟩)) wx) ∧ wr.cell? ⟨b, off + k, none⟩ = some (.string x) := by
  obtain ⟨b, off, ha, hc⟩ := (h.below hb).2.2.1 k hk
  exact ⟨_, rfl, h.2.2.2 _ (getD_mem (by rw [h.1]; exact hk)), b, off, idx24 a n c k b off ha hk, hc⟩

theorem str_snoc {w : World} {a : Option Addr} {n k : Nat} {ss : List ByteArray} {x : ByteArray} (h : Str w a n ss) (hx : x = ss.getD k ByteArray.empty) (hk : k < n) : ss.take (k + 1) = ss.take k ++ [x] := by
  rw [hx]; exact take_snoc (by rw [h.1]; exact hk)

theorem two_one {B : Nat} {w0 w w2 : World} {b1 b2 n1 n2 : Nat} {s1 s2 s1' : List ByteArray} {x : ByteArray} (h : Two B w0 w b1 b2 n1 n2 s1 s2) (e : s1' = s1 ++ [x]) (hs : IsSet w2 b1 (n1 + 1) (s1 ++ [x])) (hg : w.grownBy w2 (some b1)) : Two B w0 w2 b1 b2 (n1 + 1) n2 s1' s2 := by
  obtain ⟨h1, h2, h3, h4, h5, h6⟩ := h
  have hl := h1.lt
  exact ⟨e ▸ hs, h2.kept hg (by simpa using fun e => h3 e.symm), h3, h4, h5, h6.grown hg (by omega) (fun k hk => by cases hk; exact h4)⟩

theorem two_two {B : Nat} {w0 w w2 : World} {b1 b2 n1 n2 : Nat} {s1 s2 s2' : List ByteArray} {x : ByteArray} (h : Two B w0 w b1 b2 n1 n2 s1 s2) (e : s2' = s2 ++ [x]) (hs : IsSet w2 b2 (n2 + 1) (s2 ++ [x])) (hg : w.grownBy w2 (some b2)) : Two B w0 w2 b1 b2 n1 (n2 + 1) s1 s2' := by
  obtain ⟨h1, h2, h3, h4, h5, h6⟩ := h
  have hl := h1.lt
  exact ⟨h1.kept hg (by simpa using h3), e ▸ hs, h3, h4, h5, h6.grown hg (by omega) (fun k hk => by cases hk; exact h5)⟩

theorem two_full {B : Nat} {w0 w : World} {b1 b2 n n2 k : Nat} {s s2 : List ByteArray} (h : Two B w0 w b1 b2 k n2 (s.take k) s2) (hl : s.length = n) (hk : k = n) : Two B w0 w b1 b2 n n2 s s2 := by
  subst hk
  rwa [List.take_of_length_le (by omega)] at h

theorem two_full2 {B : Nat} {w0 w : World} {b1 b2 n n1 k : Nat} {s s1 : List ByteArray} (h : Two B w0 w b1 b2 n1 k s1 (s.take k)) (hl : s.length = n) (hk : k = n) : Two B w0 w b1 b2 n1 n s1 s := by
  subst hk
  rwa [List.take_of_length_le (by omega)] at h

theorem split_start {B : Nat} {w0 w w3 : World} {b1 b2 n1 n2 nr : Nat} {s1 s2 : List ByteArray} (h : Two B w0 w b1 b2 n1 n2 s1 s2) (hown : w3.ownsRow B 9 1 (.slice (some ⟨w.heap.size, 0, none⟩) 0 nr) 0 []) (hg : w.grownBy w3 none) :
    Split B b1 b2 n1 n2 w0 w3 (.slice (some ⟨w.heap.size, 0, none⟩) 0 nr) (.slice none 0 0) [] [] s1 s2 := by
  obtain ⟨h1, h2, h3, h4, h5, h6⟩ := h
  have hl := h1.lt
  have hz := hg.size
  exact ⟨hown, World.ownsRow_nil _ _ _ _, by simp [Value.ownBlock], h1.kept hg (by simp), h2.kept hg (by simp), h6.grown hg (by omega) (fun k hk => by cases hk), by omega⟩

theorem fin_take {p : ByteArray → Bool} {xs rs : List ByteArray} {k n : Nat} (h : xs = (rs.take k).filter p) (hn : rs.length = n) (hk : n ≤ k) : xs = rs.filter p := by
  rwa [List.take_of_length_le (by omega)] at h

theorem fin_len {p : ByteArray → Bool} {xs ys rs : List ByteArray} {n : Nat} (hx : xs = rs.filter p) (hy : ys = rs.filter (fun v => !p v)) (hn : rs.length = n) : xs.length + ys.length = n := by
  have h := movedL_length p rs
  rw [hx, hy, ← hn, ← h, movedL, List.length_append]

theorem fin_eq {p : ByteArray → Bool} {xs ys rs : List ByteArray} (hx : xs = rs.filter p) (hy : ys = rs.filter (fun v => !p v)) : strs xs ++ strs ys = strs (movedL p rs) := by
  rw [hx, hy]; simp [strs, movedL]

theorem fin_none {w : World} {B n : Nat} {v : Value} {xs ys : List ByteArray} {L : List Value} (h : w.ownsRow B 9 1 v xs.length (strs xs)) (e : strs xs ++ strs ys = L) (hl : xs.length + ys.length = n) (h0 : ys.length = 0) : w.ownsRow B 9 1 v n L := by
  obtain rfl := List.eq_nil_of_length_eq_zero h0
  subst e hl
  simpa [strs] using h

theorem row_news {w : World} {B g cap : Nat} {ys : List ByteArray} (h : w.ownsRow B 9 1 (.slice (some ⟨g, 0, none⟩) ys.length cap) ys.length (strs ys)) : ∀ j u, (strs ys)[j]? = some u → w.cell? ((⟨g, 0, none⟩ : Addr).add j) = some u := by
  intro j u hj
  have hlt : j < (strs ys).length := by rcases Nat.lt_or_ge j (strs ys).length with h | h; exact h; rw [List.getElem?_eq_none h] at hj; cases hj
  rw [add_mk, Nat.zero_add, h.cellAt j (by simp [strs] at hlt; omega)]
  exact hj

theorem strs_one (ys : List ByteArray) : ∀ u ∈ strs ys, u.oneCell' = true := by
  intro u hu
  obtain ⟨_, _, rfl⟩ := List.mem_map.1 hu
  rfl

set_option maxRecDepth 100000 in
set_option maxHeartbeats 2000000 in
theorem moved_any (ar ab aa : Option Addr) (nr cr nb cb na ca : Nat) (rs bs ts : List ByteArray) (w : World) (hr : Str w ar nr rs) (hb : Str w ab nb bs) (ha : Str w aa na ts) (qr : nr ≤ 1048576) (qb : nb ≤ 1048576) (qa : na ≤ 1048576) :
    Calls Try.prog 7 #[.slice ar nr cr, .slice ab nb cb, .slice aa na ca] w fun e w' => ∃ v, e = .returned v ∧ w'.ownsRow w.heap.size 9 1 v nr (strs (movedL (stays bs ts) rs)) ∧ Below w.heap.size w w' := by
  have HR : Hid (Str w ar nr rs) := hr
  have HB : Hid (Str w ab nb bs) := hb
  have HA : Hid (Str w aa na ts) := ha
  clear hr hb ha
  have hmm := make28
  go_enter Try.func7, Try.ntmps7
  go_upto_region 1 with fail
  go_cut [7, 8] (fun m1 m2 wx => ∃ b1 b2 : Nat, m1 = .map (some b1) ∧ m2 = .map (some b2) ∧ Two w.heap.size w wx b1 b2 0 0 [] [])
  case first =>
    go_region
    all_goals (go_wp2; go_meet)
    · exact ⟨_, _, rfl, rfl, two_made w⟩
    · exact ⟨_, _, rfl, rfl, two_made' w⟩
  case rest =>
    obtain ⟨b1, b2, rfl, rfl, htwo⟩ := hcut
    have TWO : Hid (Two w.heap.size w wc b1 b2 0 0 [] []) := htwo
    clear htwo
    go_wp2_with fail
    go_loopw [25] (fun i wr => ∃ k : Nat, k ≤ nb ∧ i = .int .i64 k ∧ Two w.heap.size w wr b1 b2 k 0 (bs.take k) []) (fun i _ => nb - (intOf i).toNat)
    case atStart => exact ⟨0, Nat.zero_le _, rfl, TWO.out⟩
    case round =>
      clear TWO
      obtain ⟨k, hk, rfl, htwo⟩ := hrel
      have TWO : Hid (Two w.heap.size w wr b1 b2 k 0 (bs.take k) []) := htwo
      clear htwo
      by_cases hlt : k < nb
      · have j1 : (k : Int) < (nb : Int) := by omega
        obtain ⟨x, HX, hxs, b, off, hix, hcl⟩ := str_at HB.out TWO.out.2.2.2.2.2 k cb hlt
        go_wp2_with (first | (at_mapUpdate; refine wpList_add _ rfl _ _ _ rfl b1 k (bs.take k) rfl TWO.out.1 (by omega) x rfl hxs rfl ?_; intro w2 hset2 hgrow2))
        have NXT : Hid (Two w.heap.size w w2 b1 b2 (k + 1) 0 (bs.take (k + 1)) []) := two_one TWO.out (str_snoc HB.out HX.out hlt) hset2 hgrow2
        clear hset2 hgrow2
        go_wp2
        go_roundw
        case rel => exact ⟨k + 1, by omega, by go_num, NXT.out⟩
        case measure => simp [intOf]; omega
      · have j1 : (nb : Int) ≤ (k : Int) := by omega
        have TW2 : Hid (Two w.heap.size w wr b1 b2 nb 0 bs []) := two_full TWO.out HB.out.1 (by omega)
        clear TWO
        go_wp2_with fail
        go_loopw [34] (fun i wr => ∃ k : Nat, k ≤ na ∧ i = .int .i64 k ∧ Two w.heap.size w wr b1 b2 nb k bs (ts.take k)) (fun i _ => na - (intOf i).toNat)
        case atStart => exact ⟨0, Nat.zero_le _, rfl, TW2.out⟩
        case round =>
          clear TW2
          obtain ⟨q, hq, rfl, htwo⟩ := hrel
          have TWO : Hid (Two w.heap.size w wr b1 b2 nb q bs (ts.take q)) := htwo
          clear htwo
          by_cases hlq : q < na
          · have j2 : (q : Int) < (na : Int) := by omega
            obtain ⟨x, HX, hxs, b, off, hix, hcl⟩ := str_at HA.out TWO.out.2.2.2.2.2 q ca hlq
            go_wp2_with (first | (at_mapUpdate; refine wpList_add _ rfl _ _ _ rfl b2 q (ts.take q) rfl TWO.out.2.1 (by omega) x rfl hxs rfl ?_; intro w2 hset2 hgrow2))
            have NXT : Hid (Two w.heap.size w w2 b1 b2 nb (q + 1) bs (ts.take (q + 1))) := two_two TWO.out (str_snoc HA.out HX.out hlq) hset2 hgrow2
            clear hset2 hgrow2
            go_wp2
            go_roundw
            case rel => exact ⟨q + 1, by omega, by go_num, NXT.out⟩
            case measure => simp [intOf]; omega
          · have j2 : (na : Int) ≤ (q : Int) := by omega
            have TW3 : Hid (Two w.heap.size w wr b1 b2 nb na bs ts) := two_full2 TWO.out HA.out.1 (by omega)
            clear TWO
            obtain ⟨i9, hi9, hz0, hz1, hz2⟩ := info_parts info9
            have hB : w.heap.size ≤ wr.heap.size := TW3.out.2.2.2.2.2.size
            go_wp2_with (first | (at_make; refine wpList_make_own _ rfl _ _ 24 rfl w.heap.size 9 i9 (.string ByteArray.empty) 1 Try.underlying24 hi9 hz0 hz1 _ _ _ nr rfl rfl rfl (by rw [hz2]; omega) (by unfold maxLen; omega) hB ?_; intro w3 hown3 hgrow3))
            have SPL : Hid (Split w.heap.size b1 b2 nb na w w3 (.slice (some ⟨wr.heap.size, 0, none⟩) 0 nr) (.slice none 0 0) [] [] bs ts) := split_start TW3.out hown3 hgrow3
            clear hown3 hgrow3 TW3
            go_loopw [13, 14, 46] (fun v1 v2 i wr => ∃ k : Nat, k ≤ nr ∧ i = .int .i64 k ∧ Split w.heap.size b1 b2 nb na w wr v1 v2 ((rs.take k).filter (stays bs ts)) ((rs.take k).filter (fun v => !stays bs ts v)) bs ts) (fun _ _ i _ => nr - (intOf i).toNat)
            case atStart => exact ⟨0, Nat.zero_le _, rfl, SPL.out⟩
            case round =>
              clear SPL
              obtain ⟨p, hp, rfl, hspl⟩ := hrel
              obtain ⟨xs, hxs0⟩ : ∃ xs, xs = (rs.take p).filter (stays bs ts) := ⟨_, rfl⟩
              obtain ⟨ys, hys0⟩ : ∃ ys, ys = (rs.take p).filter (fun v => !stays bs ts v) := ⟨_, rfl⟩
              rw [← hxs0, ← hys0] at hspl
              have hlx : xs.length ≤ p := by rw [hxs0]; exact filt_le _ _ _
              have hly : ys.length ≤ p := by rw [hys0]; exact filt_le _ _ _
              have HXS : Hid (xs = (rs.take p).filter (stays bs ts)) := hxs0
              have HYS : Hid (ys = (rs.take p).filter (fun v => !stays bs ts v)) := hys0
              have SPL : Hid (Split w.heap.size b1 b2 nb na w wr u13 u14 xs ys bs ts) := hspl
              clear hspl hxs0 hys0
              by_cases hlp : p < nr
              · have j3 : (p : Int) < (nr : Int) := by omega
                obtain ⟨x, HX, hxs, b, off, hix, hcl⟩ := str_at24 HR.out SPL.out.2.2.2.2.2.1 p cr hlp
                have hlr : p < rs.length := by rw [HR.out.1]; exact hlp
                have HLR : Hid (p < rs.length) := hlr
                clear hlr
                by_cases hst : (has bs x == has ts x) = true
                · go_wp2_with (first | (at_lookup; refine wpList_ask _ rfl (.tmp 50) (.tmp 51) rfl b1 nb bs rfl SPL.out.2.2.2.1 x rfl hxs ?_) | (at_lookup; refine wpList_ask _ rfl (.tmp 53) (.tmp 54) rfl b2 na ts rfl SPL.out.2.2.2.2.1 x rfl hxs ?_) | (at_builtin; refine wpList_append_own_at _ rfl (.tmp 57) (.tmp 59) 24 rfl w.heap.size 9 i9 (.string ByteArray.empty) 1 16 Try.underlying24 hi9 hz0 hz1 hz2 rfl (by decide) _ _ _ rfl (SPL.out.1.alloc _) ⟨wr.heap.size, 0, none⟩ 1 1 [.string x] rfl rfl (cell_one_new _ _ _) (by simp [Value.oneCell']) (by unfold maxLen; omega) (by omega) (by have := SPL.out.2.2.2.2.2.2; simp; omega) ?_; intro v' w4 hown4 hgrow4 _ hloc4))
                  have NXT := SPL.out.next hown4 hgrow4 hloc4
                  have NX : Hid (Split w.heap.size b1 b2 nb na w w4 v' u14 ((rs.take (p + 1)).filter (stays bs ts)) ((rs.take (p + 1)).filter (fun v => !stays bs ts v)) bs ts) := by
                    have hst' : stays bs ts x = true := hst
                    rw [HX.out] at hst' NXT
                    rw [filt_in HLR.out hst', filt_out HLR.out (by rw [hst']; rfl), ← HXS.out, ← HYS.out]
                    exact NXT
                  clear hown4 hgrow4 hloc4 NXT
                  go_wp2
                  go_roundw
                  case rel => exact ⟨p + 1, by omega, by go_num, NX.out⟩
                  case measure => simp [intOf]; omega
                · have hst0 : (has bs x == has ts x) = false := by simpa using hst
                  clear hst
                  go_wp2_with (first | (at_lookup; refine wpList_ask _ rfl (.tmp 50) (.tmp 51) rfl b1 nb bs rfl SPL.out.2.2.2.1 x rfl hxs ?_) | (at_lookup; refine wpList_ask _ rfl (.tmp 53) (.tmp 54) rfl b2 na ts rfl SPL.out.2.2.2.2.1 x rfl hxs ?_) | (at_builtin; refine wpList_append_own_at _ rfl (.tmp 61) (.tmp 63) 24 rfl w.heap.size 9 i9 (.string ByteArray.empty) 1 16 Try.underlying24 hi9 hz0 hz1 hz2 rfl (by decide) _ _ _ rfl (SPL.out.2.1.alloc _) ⟨wr.heap.size, 0, none⟩ 1 1 [.string x] rfl rfl (cell_one_new _ _ _) (by simp [Value.oneCell']) (by unfold maxLen; omega) (by omega) (by have := SPL.out.2.2.2.2.2.2; simp; omega) ?_; intro v' w4 hown4 hgrow4 _ hloc4))
                  have NXT := SPL.out.moved hown4 hgrow4 hloc4
                  have NX : Hid (Split w.heap.size b1 b2 nb na w w4 u13 v' ((rs.take (p + 1)).filter (stays bs ts)) ((rs.take (p + 1)).filter (fun v => !stays bs ts v)) bs ts) := by
                    have hst' : stays bs ts x = false := hst0
                    rw [HX.out] at hst' NXT
                    rw [filt_out HLR.out hst', filt_in (p := fun v => !stays bs ts v) HLR.out (by rw [hst']; rfl), ← HXS.out, ← HYS.out]
                    exact NXT
                  clear hown4 hgrow4 hloc4 NXT
                  go_wp2
                  go_roundw
                  case rel => exact ⟨p + 1, by omega, by go_num, NX.out⟩
                  case measure => simp [intOf]; omega
              · have j3 : (nr : Int) ≤ (p : Int) := by omega
                have HXF : Hid (xs = rs.filter (stays bs ts)) := fin_take HXS.out HR.out.1 (by omega)
                have HYF : Hid (ys = rs.filter (fun v => !stays bs ts v)) := fin_take HYS.out HR.out.1 (by omega)
                have HLL : Hid (xs.length + ys.length = nr) := fin_len HXF.out HYF.out HR.out.1
                have HFIN : Hid (strs xs ++ strs ys = strs (movedL (stays bs ts) rs)) := fin_eq HXF.out HYF.out
                have hBz : w.heap.size ≤ wr.heap.size := SPL.out.2.2.2.2.2.2
                have hbel : Below w.heap.size w wr := SPL.out.2.2.2.2.2.1
                have HO1 : Hid (wr.ownsRow w.heap.size 9 1 u13 xs.length (strs xs)) := SPL.out.1
                have HO2 : Hid (wr.ownsRow w.heap.size 9 1 u14 ys.length (strs ys)) := SPL.out.2.1
                clear SPL HXS HYS HXF HYF
                rcases HO2.out.2 with ⟨hv, h0⟩ | ⟨g, cap, cur, hv, hg⟩
                · have HY0 : Hid (ys.length = 0) := h0
                  clear h0
                  rw [hv]
                  go_wp2_with (first | (at_builtin; refine wpList_append_own_none rfl (.tmp 66) (.tmp 67) 24 rfl w.heap.size 9 i9 1 Try.underlying24 hi9 _ _ _ rfl HO1.out rfl ?_))
                  go_ret
                  exact ⟨u13, rfl, fin_none HO1.out HFIN.out HLL.out HY0.out, hbel⟩
                · have HC : Hid (∀ j u, (strs ys)[j]? = some u → wr.cell? ((⟨g, 0, none⟩ : Addr).add j) = some u) := row_news (hv ▸ HO2.out)
                  have HC1 : Hid (∀ u ∈ strs ys, u.oneCell' = true) := strs_one ys
                  have HL1 : Hid ((strs ys).length = ys.length * 1) := by show _ = _; simp [strs]
                  have hll : xs.length + ys.length ≤ 1048576 := by rw [HLL.out]; exact qr
                  clear hg
                  rw [hv]
                  go_wp2_with (first | (at_builtin; refine wpList_append_own_at _ rfl (.tmp 66) (.tmp 67) 24 rfl w.heap.size 9 i9 (.string ByteArray.empty) 1 16 Try.underlying24 hi9 hz0 hz1 hz2 rfl (by decide) _ _ _ rfl HO1.out ⟨g, 0, none⟩ ys.length cap (strs ys) rfl HL1.out HC.out HC1.out (by unfold maxLen; omega) (by omega) hBz ?_; intro v' w4 hown4 hgrow4 _ hloc4))
                  have RES : Hid (w4.ownsRow w.heap.size 9 1 v' nr (strs (movedL (stays bs ts) rs)) ∧ Below w.heap.size w w4) := ⟨by rw [HFIN.out, HLL.out] at hown4; exact hown4, hbel.grown hgrow4 hBz (row_old HO1.out).2.2⟩
                  clear hown4 hgrow4 hloc4
                  go_wp2
                  go_ret
                  exact ⟨v', rfl, RES.out⟩

end Go.Proofs.Qxb6630384a.Moved
