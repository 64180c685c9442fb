/- The walk of FnMovedIsStablePartitionByPosition. -/
import Derived.Test.Qxb6630384aPlain
import Derived.Test.Qxb6630384aGuards
import Derived.Laws.CopyOwn
namespace Go.Proofs.Qxb6630384a.Moved
open Go.RowKit
set_option linter.unusedVariables false

theorem size9 : (Try.prog.info? 9).map (·.size) = some 1 := by kernel_rfl

def emptyL (c : Nat) : List Value := List.replicate c (Value.string ByteArray.empty)

theorem make22 (n : Nat) (hn : n ≤ 1048576) (w : World) :
    (Instr.makeSlice 22 (.int .i64 (n : Int)) (.int .i64 (n : Int))).run Try.prog w = .ok (.slice (some ⟨w.heap.size, 0, none⟩) n n) (w.alloc (.cells (emptyL n).toArray 9)) := by
  obtain ⟨i, hi, hz, hs, hb⟩ := info_parts info9
  have hr := run_make (P := Try.prog) w 22 9 i (.string ByteArray.empty) Try.underlying22 hi hz .i64 .i64 n n (by omega) (by omega) (by rw [hb]; omega) (by omega)
  simp only [Int.toNat_natCast, hs, Nat.mul_one] at hr
  rw [hr]
  have e : madeCells (Value.string ByteArray.empty).cells n = (emptyL n).toArray := by
    have h := toList_madeCells_one (Value.string ByteArray.empty) n
    have : (Value.string ByteArray.empty).cells = #[Value.string ByteArray.empty] := rfl
    rw [this]
    apply Array.toList_inj.1
    rw [h]; rfl
  rw [e]

theorem neq22 (w : World) (a : Option Addr) (n c : Nat) : (binOp .neq 22 (.slice a n c) (.slice none 0 0)).run Try.prog w = .ok (.bool (!a.isNone)) w := by
  have h := Lib.run_equalIn_slice_nil (P := Try.prog) w 9999 22 9 a n c 0 0 Try.underlying22
  simp only [binOp]
  simp [Op.equal, Op.maxDepth, h]

/-- The copy that is made of r first. -/
theorem str_copied {w : World} {a : Option Addr} {n : Nat} {rs : List ByteArray} {w2 : World} {g : Nat} (h : Str w a n rs) (hg : w2.heap[g]? = some (.cells (splice (emptyL n) 0 (strs rs)).toArray 9 (0, 0))) : Str w2 (some ⟨g, 0, none⟩) n rs := by
  refine ⟨h.1, h.2.1, fun k hk => ⟨g, 0, rfl, ?_⟩, h.2.2.2⟩
  have hl := h.1
  rw [Nat.zero_add, cell_of_row w2 g _ _ 9 (0, 0) hg, List.getElem?_toArray, splice, List.take_zero, List.nil_append, List.getElem?_append_left (by simp [strs]; omega), strs, List.getElem?_map, List.getD_eq_getElem?_getD, List.getElem?_eq_getElem (by omega)]
  rfl

theorem str_src {w : World} {a : Option Addr} {n : Nat} {rs : List ByteArray} (h : Str w a n rs) (hp : 0 < rs.length) : ∃ ad, a = some ad ∧ ∀ (j : Nat) (v : Value), (strs rs)[j]? = some v → w.cell? (ad.add j) = some v := by
  obtain ⟨b, off, rfl, _⟩ := h.2.2.1 0 (by have := h.1; omega)
  refine ⟨_, rfl, fun j v hj => ?_⟩
  have hlt : j < rs.length := by
    rcases Nat.lt_or_ge j rs.length with h1 | h1
    · exact h1
    · rw [List.getElem?_eq_none (by simpa [strs] using h1)] at hj; cases hj
  obtain ⟨b', off', e, hc⟩ := h.2.2.1 j (by have := h.1; omega)
  cases e
  rw [add_mk, hc]
  rw [strs, List.getElem?_map, List.getElem?_eq_getElem hlt] at hj
  rw [getD_eq hlt]
  exact hj

theorem got_at {w : World} {a : Option Addr} {n c k : Nat} {K : Int} {ss rs : List ByteArray} {x y : ByteArray} (h : Str w a n ss) (hl : rs.length = n) (hK : K = (k : Int)) (hg : k < rs.length ∧ ss.getD k ByteArray.empty = y) (hx : x = y) :
    k < n ∧ ∃ b off, (∀ wx, (Instr.indexAt 24 (.slice a n c) (.int .i64 K)).run Try.prog wx = .ok (.pointer (some ⟨b, off + k, none⟩)) wx) ∧ w.cell? ⟨b, off + k, none⟩ = some (.string x) := by
  obtain ⟨b, off, ha, hc⟩ := h.2.2.1 k (by omega)
  rw [hg.2, ← hx] at hc
  subst hK
  exact ⟨by omega, b, off, idx24 a n c k b off ha (by omega), hc⟩

set_option maxRecDepth 100000 in
set_option maxHeartbeats 4000000 in
theorem law1 (ar ab aa : Option Addr) (nr cr nb cb na ca : Nat) (rs bs ts : List ByteArray) (w : World) (hr : Str w ar nr rs) (hb : Str w ab nb bs) (ha : Str w aa na ts) :
    Calls Try.prog 3 #[.slice ar nr cr, .slice ab nb cb, .slice aa na ca] w fun e w' => e = .returned (.bool true) ∧ Below w.heap.size w w' := by
  have HR : Hid (Str w ar nr rs) := hr
  have HB : Hid (Str w ab nb bs) := hb
  have HA : Hid (Str w aa na ts) := ha
  clear hr hb ha
  have hnil := neq22
  go_enter Try.func3, Try.ntmps3
  go_wp2_with fail
  refine (bytes5_any ar ab aa nr cr nb cb na ca rs bs ts w HR.out HB.out HA.out).mono ?_
  rintro e w' ⟨b1, rfl, rfl, hbd⟩
  cases b1 with
  | false =>
    go_wp2
    go_ret
    exact ⟨rfl, Below.refl _ _⟩
  | true =>
    obtain ⟨qr, qb, qa⟩ := hbd rfl
    clear hbd
    have hmk := make22 nr qr
    go_wp2_with fail
    refine (within_any ar ab aa nr cr nb cb na ca rs bs ts w HR.out HB.out HA.out).mono ?_
    rintro e w' ⟨b2, rfl, rfl, _⟩
    cases b2 with
    | false =>
      go_wp2
      go_ret
      exact ⟨rfl, Below.refl _ _⟩
    | true =>
      go_upto_if 28 with fail
      go_cut [0] (fun r wx => ∃ (a : Option Addr) (c : Nat), r = .slice a nr c ∧ Str wx a nr rs ∧ Below w.heap.size w wx)
      case first =>
        obtain ⟨B, hB⟩ : ∃ B, ar.isSome = B := ⟨_, rfl⟩
        rw [hB]
        clear hB
        cases B with
        | true =>
          have HS : Hid (Str (w.alloc (.cells (emptyL nr).toArray 9)) ar nr rs) := HR.out.below ((Below.refl _ _).alloc (Nat.le_refl _) _)
          go_wp2_with (first | (refine wpList_copy_splice rfl (.tmp 32) (.tmp 33) 22 22 rfl 9 Try.underlying22 size9 _ _ _ _ _ _ rfl rfl w.heap.size 0 (emptyL nr) 9 ?c1 (strs rs) ?c2 ?c3 ?c4 ?c5 w.heap.size w ?c6 ?c7 ?_))
          case c1 => exact heap_alloc_new w _
          case c2 => rw [strs, List.length_map, HR.out.1]; exact (Nat.min_self nr).symm
          case c3 =>
            intro hp
            obtain ⟨ad, h1, h2⟩ := str_src HS.out (by simpa [strs] using hp)
            first
              | exact ⟨rfl, ad, h1, h2⟩
              | exact ⟨ad, h1, h2⟩
          case c4 => have := HR.out.1; simp [strs, emptyL]; omega
          case c5 => exact strs_one rs
          case c6 => exact (Below.refl _ _).alloc (Nat.le_refl _) _
          case c7 => exact Nat.le_refl _
          intro w2 hg2 hb2
          go_wp2
          go_meet
          exact ⟨_, nr, rfl, str_copied HR.out hg2.out, hb2⟩
        | false =>
          go_wp2
          go_meet
          exact ⟨ar, cr, rfl, HR.out, Below.refl _ _⟩
      case rest =>
        obtain ⟨a1, c1, rfl, hst, hbel⟩ := hcut
        have ST : Hid (Str wc a1 nr rs) := hst
        have SB : Hid (Str wc ab nb bs) := HB.out.below hbel
        have SA : Hid (Str wc aa na ts) := HA.out.below hbel
        clear hst hmk hnil
        go_wp2_with fail
        refine (moved_str a1 ab aa nr c1 nb cb na ca rs bs ts wc ST.out SB.out SA.out qr qb qa).mono ?_
        rintro e w2 ⟨ao, cg, rfl, hgot, hb2⟩
        have GT : Hid (Str w2 ao nr (movedL (stays bs ts) rs)) := hgot
        have S1 : Hid (Str w2 a1 nr rs) := ST.out.below hb2
        have S2 : Hid (Str w2 ab nb bs) := SB.out.below hb2
        have S3 : Hid (Str w2 aa na ts) := SA.out.below hb2
        have hbb : Below w.heap.size w w2 := hbel.trans (hb2.mono hbel.size)
        clear hgot ST SB SA hb2 hbel
        go_wp2_with fail
        go_loop [9, 47] (fun t i => ∃ k : Nat, k ≤ nr ∧ i = .int .i64 k ∧ t = .int .i64 (((rs.take k).filter (stays bs ts)).length : Nat)) (fun _ i => nr - (intOf i).toNat)
        case atStart => exact ⟨0, Nat.zero_le _, rfl, rfl⟩
        case round =>
          obtain ⟨k, hk, rfl, rfl⟩ := hrel
          have hql := filt_le (stays bs ts) rs k
          obtain ⟨t, ht⟩ : ∃ t, t = ((rs.take k).filter (stays bs ts)).length := ⟨_, rfl⟩
          rw [← ht] at hql ⊢
          have HT : Hid (t = ((rs.take k).filter (stays bs ts)).length) := ht
          clear ht
          by_cases hlt : k < nr
          · have j1 : (k : Int) < (nr : Int) := by omega
            obtain ⟨x, HX, hxs, b, off, hix, hcl⟩ := str_at S1.out (Below.refl _ _) k c1 hlt
            have HLR : Hid (k < rs.length) := by show _ < _; rw [S1.out.1]; exact hlt
            by_cases hst : stays bs ts x = true
            · go_wp2_with (first | (go_at_call 8; refine (stays_any ab aa nb cb na ca bs ts x w2 S2.out S3.out).mono ?_; rintro e w' ⟨rfl, rfl⟩))
              go_round
              case rel => exact ⟨k + 1, by omega, by go_num, by rw [filt_in HLR.out (by rw [← HX.out]; exact hst), List.length_append, ← HT.out]; go_num⟩
              case measure => simp [intOf]; omega
            · have hst0 : stays bs ts x = false := by simpa using hst
              clear hst
              go_wp2_with (first | (go_at_call 8; refine (stays_any ab aa nb cb na ca bs ts x w2 S2.out S3.out).mono ?_; rintro e w' ⟨rfl, rfl⟩))
              go_round
              case rel => exact ⟨k + 1, by omega, by go_num, by rw [filt_out HLR.out (by rw [← HX.out]; exact hst0), ← HT.out]⟩
              case measure => simp [intOf]; omega
          · have j1 : (nr : Int) ≤ (k : Int) := by omega
            have HTF : Hid (t = (rs.filter (stays bs ts)).length) := by show _ = _; rw [HT.out, List.take_of_length_le (by rw [S1.out.1]; omega)]
            clear HT
            go_wp2_with fail
            go_loop [12, 13, 60] (fun s m i => ∃ q : Nat, q ≤ nr ∧ i = .int .i64 q ∧ s = .int .i64 (((rs.take q).filter (stays bs ts)).length : Nat) ∧ m = .int .i64 (((rs.take q).filter (fun v => !stays bs ts v)).length : Nat)) (fun _ _ i => nr - (intOf i).toNat)
            case atStart => exact ⟨0, Nat.zero_le _, rfl, rfl, rfl⟩
            case round =>
              obtain ⟨q, hq, rfl, rfl, rfl⟩ := hrel
              have hsl := filt_le (stays bs ts) rs q
              have hml := filt_le (fun v => !stays bs ts v) rs q
              obtain ⟨sq, hsq⟩ : ∃ sq, sq = ((rs.take q).filter (stays bs ts)).length := ⟨_, rfl⟩
              obtain ⟨mq, hmq⟩ : ∃ mq, mq = ((rs.take q).filter (fun v => !stays bs ts v)).length := ⟨_, rfl⟩
              rw [← hsq] at hsl ⊢
              rw [← hmq] at hml ⊢
              have HSQ : Hid (sq = ((rs.take q).filter (stays bs ts)).length) := hsq
              have HMQ : Hid (mq = ((rs.take q).filter (fun v => !stays bs ts v)).length) := hmq
              clear hsq hmq
              by_cases hlq : q < nr
              · have j2 : (q : Int) < (nr : Int) := by omega
                obtain ⟨x, HX, hxs, b, off, hix, hcl⟩ := str_at S1.out (Below.refl _ _) q c1 hlq
                have HLR : Hid (q < rs.length) := by show _ < _; rw [S1.out.1]; exact hlq
                by_cases hst : stays bs ts x = true
                · obtain ⟨hlt2, bg, og, hig, hcg⟩ := got_at GT.out S1.out.1 (k := sq) (K := (sq : Int)) (c := cg) rfl (HSQ.out ▸ got_stay HLR.out (by rw [← HX.out]; exact hst)) HX.out
                  go_wp2_with (first | (go_at_call 8; refine (stays_any ab aa nb cb na ca bs ts x w2 S2.out S3.out).mono ?_; rintro e w' ⟨rfl, rfl⟩))
                  go_round
                  case rel => exact ⟨q + 1, by omega, by go_num, by rw [filt_in HLR.out (by rw [← HX.out]; exact hst), List.length_append, ← HSQ.out]; go_num, by rw [filt_out HLR.out (by rw [← HX.out, hst]; rfl), ← HMQ.out]⟩
                  case measure => simp [intOf]; omega
                · have hst0 : stays bs ts x = false := by simpa using hst
                  clear hst
                  obtain ⟨hlt2, bg, og, hig, hcg⟩ := got_at GT.out S1.out.1 (k := t + mq) (K := (t : Int) + (mq : Int)) (c := cg) (by omega) (HTF.out ▸ HMQ.out ▸ got_move HLR.out (by rw [← HX.out]; exact hst0)) HX.out
                  go_wp2_with (first | (go_at_call 8; refine (stays_any ab aa nb cb na ca bs ts x w2 S2.out S3.out).mono ?_; rintro e w' ⟨rfl, rfl⟩))
                  go_round
                  case rel => exact ⟨q + 1, by omega, by go_num, by rw [filt_out HLR.out (by rw [← HX.out]; exact hst0), ← HSQ.out], by rw [filt_in (p := fun v => !stays bs ts v) HLR.out (by rw [← HX.out, hst0]; rfl), List.length_append, ← HMQ.out]; go_num⟩
                  case measure => simp [intOf]; omega
              · have j2 : (nr : Int) ≤ (q : Int) := by omega
                go_wp2
                go_ret
                exact ⟨rfl, hbb⟩

end Go.Proofs.Qxb6630384a.Moved
