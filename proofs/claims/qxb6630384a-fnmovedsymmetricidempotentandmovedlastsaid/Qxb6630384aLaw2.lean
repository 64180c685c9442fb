/- The walk of FnMovedSymmetricIdempotentAndMovedLast. -/
import Derived.Test.Qxb6630384aLaw1
import Derived.Deep.QuietTactic
import Derived.BigQuiet
namespace Go.Proofs.Qxb6630384a.Moved
open Go.RowKit
set_option linter.unusedVariables false

theorem count_moved (a : Option Addr) (n c : Nat) (rs bs ts : List ByteArray) (v : ByteArray) (w : World) (h : Str w a n (movedL (stays bs ts) rs)) :
    Calls Try.prog 10 #[.slice a n c, .string v] w fun e w' => e = .returned (.int .i64 (cnt rs v : Nat)) ∧ w = w' := by
  have := count_any a n c (movedL (stays bs ts) rs) v w h
  rwa [cnt_moved] at this

set_option maxRecDepth 100000 in
set_option maxHeartbeats 4000000 in
theorem law2 (ar ab aa : Option Addr) (nr cr nb cb na ca : Nat) (rs bs ts : List ByteArray) (w : World) (hr : Str w ar nr rs) (hb : Str w ab nb bs) (ha : Str w aa na ts) :
    Calls Try.prog 4 #[.slice ar nr cr, .slice ab nb cb, .slice aa na ca] w fun e w' => e = .returned (.bool true) ∧ Below w.heap.size w w' := by
  have HR : Hid (Str w ar nr rs) := hr
  have HB : Hid (Str w ab nb bs) := hb
  have HA : Hid (Str w aa na ts) := ha
  clear hr hb ha
  have hnil := neq22
  go_enter Try.func4, Try.ntmps4
  go_wp2_with fail
  refine (bytes9_any ar ab aa nr cr nb cb na ca rs bs ts w HR.out HB.out HA.out).mono ?_
  rintro e w' ⟨b1, rfl, rfl, hbd⟩
  cases b1 with
  | false =>
    go_wp2
    go_ret
    exact ⟨rfl, Below.refl _ _⟩
  | true =>
    obtain ⟨qr, qb, qa⟩ := hbd rfl
    clear hbd
    have hmk := make22 nr qr
    go_wp2_with fail
    refine (within_any ar ab aa nr cr nb cb na ca rs bs ts w HR.out HB.out HA.out).mono ?_
    rintro e w' ⟨b2, rfl, rfl, _⟩
    cases b2 with
    | false =>
      go_wp2
      go_ret
      exact ⟨rfl, Below.refl _ _⟩
    | true =>
      go_upto_if 28 with fail
      go_cut [0] (fun r wx => ∃ (a : Option Addr) (c : Nat), r = .slice a nr c ∧ Str wx a nr rs ∧ Below w.heap.size w wx)
      case first =>
        obtain ⟨B, hB⟩ : ∃ B, ar.isSome = B := ⟨_, rfl⟩
        rw [hB]
        clear hB
        cases B with
        | true =>
          have HS : Hid (Str (w.alloc (.cells (emptyL nr).toArray 9)) ar nr rs) := HR.out.below ((Below.refl _ _).alloc (Nat.le_refl _) _)
          go_wp2_with (first | (refine wpList_copy_splice rfl (.tmp 32) (.tmp 33) 22 22 rfl 9 Try.underlying22 size9 _ _ _ _ _ _ rfl rfl w.heap.size 0 (emptyL nr) 9 ?c1 (strs rs) ?c2 ?c3 ?c4 ?c5 w.heap.size w ?c6 ?c7 ?_))
          case c1 => exact heap_alloc_new w _
          case c2 => rw [strs, List.length_map, HR.out.1]; exact (Nat.min_self nr).symm
          case c3 =>
            intro hp
            obtain ⟨ad, h1, h2⟩ := str_src HS.out (by simpa [strs] using hp)
            first
              | exact ⟨rfl, ad, h1, h2⟩
              | exact ⟨ad, h1, h2⟩
          case c4 => have := HR.out.1; simp [strs, emptyL]; omega
          case c5 => exact strs_one rs
          case c6 => exact (Below.refl _ _).alloc (Nat.le_refl _) _
          case c7 => exact Nat.le_refl _
          intro w2 hg2 hb2
          go_wp2
          go_meet
          exact ⟨_, nr, rfl, str_copied HR.out hg2.out, hb2⟩
        | false =>
          go_wp2
          go_meet
          exact ⟨ar, cr, rfl, HR.out, Below.refl _ _⟩
      case rest =>
        obtain ⟨a1, c1, rfl, hst, hbel⟩ := hcut
        have ST : Hid (Str wc a1 nr rs) := hst
        have SB : Hid (Str wc ab nb bs) := HB.out.below hbel
        have SA : Hid (Str wc aa na ts) := HA.out.below hbel
        clear hst hmk hnil
        go_wp2_with fail
        refine (moved_str a1 ab aa nr c1 nb cb na ca rs bs ts wc ST.out SB.out SA.out qr qb qa).mono ?_
        rintro e w2 ⟨ag, cg, rfl, hgot, hb2⟩
        have GT : Hid (Str w2 ag nr (movedL (stays bs ts) rs)) := hgot
        have T1 : Hid (Str w2 a1 nr rs) := ST.out.below hb2
        have T2 : Hid (Str w2 ab nb bs) := SB.out.below hb2
        have T3 : Hid (Str w2 aa na ts) := SA.out.below hb2
        have hbb : Below w.heap.size w w2 := hbel.trans (hb2.mono hbel.size)
        clear hgot ST SB SA hb2 hbel
        go_wp2_with fail
        refine (moved_str a1 aa ab nr c1 na ca nb cb rs ts bs w2 T1.out T3.out T2.out qr qa qb).mono ?_
        rintro e w3 ⟨ak, ck, rfl, hback, hb3⟩
        have BK : Hid (Str w3 ak nr (movedL (stays bs ts) rs)) := by rw [stays_comm] at hback; exact hback
        have GT3 : Hid (Str w3 ag nr (movedL (stays bs ts) rs)) := GT.out.below hb3
        have U1 : Hid (Str w3 a1 nr rs) := T1.out.below hb3
        have U2 : Hid (Str w3 ab nb bs) := T2.out.below hb3
        have U3 : Hid (Str w3 aa na ts) := T3.out.below hb3
        have hbb3 : Below w.heap.size w w3 := hbb.trans (hb3.mono hbb.size)
        clear hback GT T1 T2 T3 hb3 hbb
        go_wp2_with fail
        refine (moved_str ag ab aa nr cg nb cb na ca (movedL (stays bs ts) rs) bs ts w3 GT3.out U2.out U3.out qr qb qa).mono ?_
        rintro e w4 ⟨an, cn, rfl, hagain, hb4⟩
        have AG : Hid (Str w4 an nr (movedL (stays bs ts) rs)) := by rw [movedL_idem] at hagain; exact hagain
        have BK4 : Hid (Str w4 ak nr (movedL (stays bs ts) rs)) := BK.out.below hb4
        have GT4 : Hid (Str w4 ag nr (movedL (stays bs ts) rs)) := GT3.out.below hb4
        have S1 : Hid (Str w4 a1 nr rs) := U1.out.below hb4
        have S2 : Hid (Str w4 ab nb bs) := U2.out.below hb4
        have S3 : Hid (Str w4 aa na ts) := U3.out.below hb4
        have hbb : Below w.heap.size w w4 := hbb3.trans (hb4.mono hbb3.size)
        clear hagain BK GT3 U1 U2 U3 hb4 hbb3
        go_wp2_with fail
        go_loopw [11] (fun i wr => ∃ k : Nat, k ≤ nr ∧ i = .int .i64 k ∧ ∃ q, wr = w4.drewN q) (fun i _ => nr - (intOf i).toNat)
        case atStart => exact ⟨0, Nat.zero_le _, rfl, 0, rfl⟩
        case round =>
          obtain ⟨k, hk, rfl, dq, rfl⟩ := hrel
          by_cases hlt : k < nr
          · have j1 : (k : Int) < (nr : Int) := by omega
            obtain ⟨x, HX, hxs, bg, og, hig, hcg⟩ := str_at24 GT4.out (Below.refl _ _) k cg hlt
            obtain ⟨_, bk, ok, hik, hck⟩ := got_at (c := ck) BK4.out BK4.out.1 (k := k) (K := (k : Int)) rfl ⟨by rw [BK4.out.1]; exact hlt, rfl⟩ HX.out
            obtain ⟨_, bn, on, hin, hcn⟩ := got_at (c := cn) AG.out AG.out.1 (k := k) (K := (k : Int)) rfl ⟨by rw [AG.out.1]; exact hlt, rfl⟩ HX.out
            go_wp2_with fail
            go_quiet (fail)
            go_wp2
            go_roundw
            case rel => exact ⟨k + 1, by omega, by go_num, _, rfl⟩
            case measure => simp [intOf]; omega
          · have j1 : (nr : Int) ≤ (k : Int) := by omega
            go_wp2_with fail
            obtain ⟨wd, hwd⟩ : ∃ wd, wd = w4.drewN dq := ⟨_, rfl⟩
            have V0 : Hid (Str wd ag nr (movedL (stays bs ts) rs)) := by show Str _ _ _ _; rw [hwd]; exact GT4.out
            have V1 : Hid (Str wd a1 nr rs) := by show Str _ _ _ _; rw [hwd]; exact S1.out
            have V2 : Hid (Str wd ab nb bs) := by show Str _ _ _ _; rw [hwd]; exact S2.out
            have V3 : Hid (Str wd aa na ts) := by show Str _ _ _ _; rw [hwd]; exact S3.out
            have hbd : Below w.heap.size w wd := by rw [hwd]; exact below_drewN hbb _
            rw [← hwd]
            clear hwd hbb S1 S2 S3 GT4 BK4 AG
            go_loop [95] (fun i => ∃ q : Nat, q ≤ nr ∧ i = .int .i64 q) (fun i => nr - (intOf i).toNat)
            case atStart => exact ⟨0, Nat.zero_le _, rfl⟩
            case round =>
              obtain ⟨q, hq, rfl⟩ := hrel
              by_cases hlq : q < nr
              · have j2 : (q : Int) < (nr : Int) := by omega
                obtain ⟨x, HX, hxs, b, off, hix, hcl⟩ := str_at V1.out (Below.refl _ _) q c1 hlq
                go_wp2_with fail
                refine (count_any a1 nr c1 rs x wd V1.out).mono ?_
                rintro e w' ⟨rfl, rfl⟩
                go_wp2_with fail
                refine (count_moved ag nr cg rs bs ts x wd V0.out).mono ?_
                rintro e w' ⟨rfl, rfl⟩
                go_wp2
                go_round
                case rel => exact ⟨q + 1, by omega, by go_num⟩
                case measure => simp [intOf]; omega
              · have j2 : (nr : Int) ≤ (q : Int) := by omega
                go_wp2_with fail
                go_loop [14, 109] (fun sb i => ∃ q : Nat, q ≤ nr ∧ i = .int .i64 q ∧ sb = .bool (((movedL (stays bs ts) rs).take q).any (fun v => !stays bs ts v))) (fun _ i => nr - (intOf i).toNat)
                case atStart => exact ⟨0, Nat.zero_le _, rfl, rfl⟩
                case round =>
                  obtain ⟨p, hp, rfl, rfl⟩ := hrel
                  obtain ⟨sb, hsb⟩ : ∃ sb, sb = ((movedL (stays bs ts) rs).take p).any (fun v => !stays bs ts v) := ⟨_, rfl⟩
                  rw [← hsb]
                  have HSB : Hid (sb = ((movedL (stays bs ts) rs).take p).any (fun v => !stays bs ts v)) := hsb
                  clear hsb
                  by_cases hlp : p < nr
                  · have j3 : (p : Int) < (nr : Int) := by omega
                    obtain ⟨x, HX, hxs, b, off, hix, hcl⟩ := str_at24 V0.out (Below.refl _ _) p cg hlp
                    have HLR : Hid (p < (movedL (stays bs ts) rs).length) := by show _ < _; rw [V0.out.1]; exact hlp
                    by_cases hst : stays bs ts x = true
                    · have HS0 : Hid (((movedL (stays bs ts) rs).take p).any (fun v => !stays bs ts v) = false) := seen_none HLR.out (by rw [← HX.out]; exact hst)
                      cases sb with
                      | true => exact absurd HSB.out (by rw [HS0.out]; exact Bool.noConfusion)
                      | false =>
                        go_wp2_with (first | (go_at_call 8; refine (stays_any ab aa nb cb na ca bs ts x wd V2.out V3.out).mono ?_; rintro e w' ⟨rfl, rfl⟩))
                        go_round
                        case rel => exact ⟨p + 1, by omega, by go_num, by rw [any_step HLR.out, HS0.out, ← HX.out, hst]; rfl⟩
                        case measure => simp [intOf]; omega
                    · have hst0 : stays bs ts x = false := by simpa using hst
                      clear hst
                      go_wp2_with (first | (go_at_call 8; refine (stays_any ab aa nb cb na ca bs ts x wd V2.out V3.out).mono ?_; rintro e w' ⟨rfl, rfl⟩))
                      go_round
                      case rel => exact ⟨p + 1, by omega, by go_num, by rw [any_step HLR.out, ← HX.out, hst0]; simp⟩
                      case measure => simp [intOf]; omega
                  · have j3 : (nr : Int) ≤ (p : Int) := by omega
                    go_wp2
                    go_ret
                    exact ⟨rfl, hbd⟩

end Go.Proofs.Qxb6630384a.Moved
