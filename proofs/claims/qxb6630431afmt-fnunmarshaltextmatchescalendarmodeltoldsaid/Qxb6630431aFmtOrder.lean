/- The walk of FnUnmarshalTextKeepsTextOrder. -/
import Derived.Test.Qxb6630431aFmtCal
import Derived.Test.Qxb6630431aFmtUnmarshal
namespace Go.Proofs.Qxb6630431aFmt.Dates
open Go.RowKit Go.Extern.Stop Go.Stop Go.Extern
set_option linter.unusedVariables false

theorem info5 : (Tryf.prog.info? 5).map (fun i => (i.zero, i.size, i.bytes)) = some (some (.int .u8 0), 1, 1) := by kernel_rfl

theorem idx22 (a : Option Addr) (n c k b off : Nat) (ha : a = some ⟨b, off, none⟩) (hk : k < n) (w : World) :
    (Instr.indexAt 22 (.slice a n c) (.int .i64 (k : Int))).run Tryf.prog w = .ok (.pointer (some ⟨b, off + k, none⟩)) w := by
  obtain ⟨i, hi, hz, hsz, hb⟩ := info_parts info5
  subst ha
  rw [run_indexAt_slice w 22 _ n c .i64 _ (by kernel_rfl)]
  rw [if_pos ⟨by omega, by omega⟩]
  have he : Tryf.prog.elem 22 = 5 := by kernel_rfl
  rw [he]
  simp [sizeOf, typeInfo, hi, hsz, add_mk, Result.andThen]

theorem Txt.grown {w w1 : World} {a : Option Addr} {n : Nat} {zs : List Int} {row : Option Nat} (h : Txt w a n zs) (hg : w.grownBy w1 row) (hr : ∀ b off, a = some ⟨b, off, none⟩ → some b ≠ row) : Txt w1 a n zs := by
  refine ⟨h.1, h.2.1, fun k hk => ?_, h.2.2.2⟩
  obtain ⟨b, off, ha, hc⟩ := h.2.2.1 k hk
  exact ⟨b, off, ha, hg.cell hc (hr b off ha)⟩

theorem Txt.below {w w1 : World} {a : Option Addr} {n : Nat} {zs : List Int} (h : Txt w a n zs) (hb : Below w.heap.size w w1) : Txt w1 a n zs := by
  refine ⟨h.1, h.2.1, fun k hk => ?_, h.2.2.2⟩
  obtain ⟨b, off, ha, hc⟩ := h.2.2.1 k hk
  exact ⟨b, off, ha, (hb.cell (World.block_lt_of_cell? w _ hc)).trans hc⟩

theorem drew_add (w : World) (a b : Nat) : (w.drewN a).drewN b = w.drewN (a + b) := by simp [World.drewN, Nat.add_assoc]
theorem drew2 (w : World) (a b : Nat) : ∃ q, (w.drewN a).drewN b = w.drewN q := ⟨_, drew_add w a b⟩
theorem drew3 (w : World) (a b c : Nat) : ∃ q, ((w.drewN a).drewN b).drewN c = w.drewN q := ⟨_, by rw [drew_add, drew_add]⟩

set_option maxHeartbeats 1000000 in
theorem cmp_any (a0 a1 : Option Addr) (n c0 c1 : Nat) (z0 z1 : List Int) (w : World) (hn : n = 10) (h0 : Txt w a0 n z0) (h1 : Txt w a1 n z1) :
    Calls Tryf.prog 14 #[.slice a0 n c0, .slice a1 n c1] w fun e w' => ∃ r : Int, e = .returned (.int .i64 r) ∧ Cmp r z0 z1 ∧ ∃ q, w' = w.drewN q := by
  have H0 : Hid (Txt w a0 n z0) := h0
  have H1 : Hid (Txt w a1 n z1) := h1
  have HN : Hid (n = 10) := hn
  have n1 : n ≤ 10 := by omega
  clear h0 h1 hn
  go_enter Tryf.func14, Tryf.ntmps14
  go_wp2_with fail
  go_loopw [6] (fun i wr => ∃ k : Nat, k ≤ n ∧ i = .int .i64 k ∧ (∀ j, j < k → z0.getD j 0 = z1.getD j 0) ∧ ∃ q, wr = w.drewN q) (fun i _ => n - (intOf i).toNat)
  case atStart => exact ⟨0, Nat.zero_le _, rfl, fun j hj => by omega, 0, rfl⟩
  case round =>
    obtain ⟨k, hk, rfl, he, q, rfl⟩ := hrel
    have HE : Hid (∀ j, j < k → z0.getD j 0 = z1.getD j 0) := he
    clear he
    by_cases hlt : k < n
    · have j1 : (k : Int) < (n : Int) := by omega
      obtain ⟨b0, o0, ha0, hc0⟩ := H0.out.2.2.1 k hlt
      obtain ⟨b1, o1, ha1, hc1⟩ := H1.out.2.2.1 k hlt
      have x0 := idx22 a0 n c0 k b0 o0 ha0 hlt
      have x1 := idx22 a1 n c1 k b1 o1 ha1 hlt
      obtain ⟨u, hu⟩ : ∃ u, u = z0.getD k 0 := ⟨_, rfl⟩
      obtain ⟨v, hv⟩ : ∃ v, v = z1.getD k 0 := ⟨_, rfl⟩
      rw [← hu] at hc0
      rw [← hv] at hc1
      have HU : Hid (u = z0.getD k 0) := hu
      have HV : Hid (v = z1.getD k 0) := hv
      clear ha0 ha1 hu hv
      by_cases g1 : u < v
      · have C : Hid (Cmp (-1) z0 z1) := .inl ⟨rfl, k, by have := HN.out; omega, HE.out, by rw [← HU.out, ← HV.out]; exact g1⟩
        go_wp2_with fail
        go_quiet (fail)
        go_wp2_with fail
        go_ret
        exact ⟨_, rfl, C.out, drew2 _ _ _⟩
      · by_cases g2 : v < u
        · have C : Hid (Cmp 1 z0 z1) := .inr (.inl ⟨rfl, k, by have := HN.out; omega, fun j hj => (HE.out j hj).symm, by rw [← HU.out, ← HV.out]; exact g2⟩)
          go_wp2_with fail
          go_quiet (fail)
          go_wp2_with fail
          go_quiet (fail)
          go_wp2_with fail
          go_ret
          exact ⟨_, rfl, C.out, drew3 _ _ _ _⟩
        · have NX : Hid (∀ j, j < k + 1 → z0.getD j 0 = z1.getD j 0) := fun j hj => by
            by_cases e : j = k
            · subst e; rw [← HU.out, ← HV.out]; omega
            · exact HE.out j (by omega)
          go_wp2_with fail
          go_quiet (fail)
          go_wp2_with fail
          go_quiet (fail)
          go_wp2_with fail
          go_roundw
          case rel => exact ⟨k + 1, by omega, by go_num, NX.out, _, rfl⟩
          case measure => simp [intOf]; omega
    · have j1 : (n : Int) ≤ (k : Int) := by omega
      have C : Hid (Cmp 0 z0 z1) := .inr (.inr ⟨rfl, fun j hj => HE.out j (by have := HN.out; omega)⟩)
      go_wp2_with fail
      go_ret
      exact ⟨_, rfl, C.out, _, rfl⟩

theorem bytes_yes (a0 a1 : Option Addr) (n0 c0 n1 c1 : Nat) (w : World) (h : n0 + n1 ≤ 1048576) :
    Calls Tryf.prog 11 #[.slice a0 n0 c0, .slice a1 n1 c1] w fun e w' => e = .returned (.bool true) ∧ w = w' := by
  have h1 : (n0 : Int) + (n1 : Int) ≤ 1048576 := by omega
  have h2 : (n0 : Int) ≤ 1048576 := by omega
  have h3 : (n1 : Int) ≤ 1048576 := by omega
  go_enter Tryf.func11, Tryf.ntmps11
  go_wp2
  go_ret
  exact ⟨rfl, rfl⟩

theorem bytes_no (a0 a1 : Option Addr) (n0 c0 n1 c1 : Nat) (w : World) (h : 1048576 < n0 + n1) (hm0 : n0 ≤ 9223372036854775807) (hm1 : n1 ≤ 9223372036854775807) :
    Calls Tryf.prog 11 #[.slice a0 n0 c0, .slice a1 n1 c1] w fun e w' => e = .returned (.bool false) ∧ w = w' := by
  have h0 : 1048576 < (n0 : Int) + (n1 : Int) := by omega
  by_cases h1 : 1048576 < (n0 : Int)
  · go_enter Tryf.func11, Tryf.ntmps11
    go_wp2
    go_ret
    exact ⟨rfl, rfl⟩
  · by_cases h2 : 1048576 < (n1 : Int)
    · go_enter Tryf.func11, Tryf.ntmps11
      go_wp2
      go_ret
      exact ⟨rfl, rfl⟩
    · go_enter Tryf.func11, Tryf.ntmps11
      go_wp2
      go_ret
      exact ⟨rfl, rfl⟩

theorem sign_any (x y : Int) (w : World) : Calls Tryf.prog 13 #[.int .i64 x, .int .i64 y] w fun e w' => e = .returned (.int .i64 (sgn x y)) ∧ w = w' := by
  by_cases h : x < y
  · have E : Hid (sgn x y = -1) := by show _ = _; rw [sgn, if_pos h]
    go_enter Tryf.func13, Tryf.ntmps13
    go_wp2
    go_ret
    exact ⟨ret_int E.out.symm, rfl⟩
  · by_cases h2 : y < x
    · have E : Hid (sgn x y = 1) := by show _ = _; rw [sgn, if_neg h, if_pos h2]
      go_enter Tryf.func13, Tryf.ntmps13
      go_wp2
      go_ret
      exact ⟨ret_int E.out.symm, rfl⟩
    · have E : Hid (sgn x y = 0) := by show _ = _; rw [sgn, if_neg h, if_neg h2]
      go_enter Tryf.func13, Tryf.ntmps13
      go_wp2
      go_ret
      exact ⟨ret_int E.out.symm, rfl⟩

theorem days_any (x : Int) (b : Bool) (w : World) : Calls Tryf.prog 8 #[.agg #[.int .i64 x, .bool b]] w fun e w' => e = .returned (.int .i64 x) ∧ w.alloc (.cells #[.int .i64 x, .bool b] 25) = w' := by
  go_enter Tryf.func8, Tryf.ntmps8
  go_wp2
  go_ret
  exact ⟨rfl, rfl⟩

theorem set_any (x : Int) (b : Bool) (w : World) : Calls Tryf.prog 9 #[.agg #[.int .i64 x, .bool b]] w fun e w' => e = .returned (.bool b) ∧ w.alloc (.cells #[.int .i64 x, .bool b] 25) = w' := by
  go_enter Tryf.func9, Tryf.ntmps9
  go_wp2
  go_ret
  exact ⟨rfl, rfl⟩

/-- What one decoding into a fresh Date owes. -/
def Side (n : Nat) (ok set : Bool) (x : Int) : Prop := (n = 0 ∧ ok = true ∧ set = false ∧ x = 0) ∨ (0 < n ∧ ok = true ∧ set = true ∧ -25567 ≤ x ∧ x ≤ 84005) ∨ (0 < n ∧ ok = false ∧ set = false ∧ x = 0)

set_option maxHeartbeats 400000 in
theorem side_any (n : Nat) (ok set : Bool) (x : Int) (w : World) (h : Side n ok set x) (hn : n ≤ 1048576) : Calls Tryf.prog 12 #[.int .i64 (n : Int), .bool ok, .bool set, .int .i64 x] w fun e w' => e = .returned (.bool true) ∧ w = w' := by
  rcases h with ⟨rfl, rfl, rfl, rfl⟩ | ⟨h0, rfl, rfl, h1, h2⟩ | ⟨h0, rfl, rfl, rfl⟩
  · go_enter Tryf.func12, Tryf.ntmps12
    go_wp2
    go_ret
    exact ⟨rfl, rfl⟩
  · have e : ((n : Int) == 0) = false := by simp; omega
    go_enter Tryf.func12, Tryf.ntmps12
    go_wp2
    go_ret
    exact ⟨rfl, rfl⟩
  · have e : ((n : Int) == 0) = false := by simp; omega
    go_enter Tryf.func12, Tryf.ntmps12
    go_wp2
    go_ret
    exact ⟨rfl, rfl⟩

/-- How an error compares with nil. -/
def NilTest (r : Value) (ok : Bool) : Prop :=
  (∀ V, (binOp .eql 28 r .nilIface).run Tryf.prog V = .ok (.bool ok) V) ∧ (∀ V, (binOp .neq 28 r .nilIface).run Tryf.prog V = .ok (.bool !ok) V) ∧ (∀ x V, (eqGuard .eql 28 x (.const .nilIface) r .nilIface).run Tryf.prog V = .ok () V) ∧ ∀ x V, (eqGuard .neq 28 x (.const .nilIface) r .nilIface).run Tryf.prog V = .ok () V

theorem nil_test : NilTest .nilIface true := by
  refine ⟨fun V => by kernel_rfl, fun V => by kernel_rfl, fun x V => ?_, fun x V => ?_⟩
  · cases x <;> rfl
  · cases x <;> rfl
theorem err_test (v : Value) : NilTest (.iface 51 v) false := ⟨fun V => by kernel_rfl, fun V => by kernel_rfl, fun x V => rfl, fun x V => rfl⟩

/-- A decoding has come back: an error or none; the Date holds x and s. -/
def Decoded (ok : Bool) (x : Int) (s : Bool) (db : Nat) (W w' : World) (e : Ending) : Prop :=
  ∃ r, e = .returned r ∧ NilTest r ok ∧ DateAt w' db x s ∧ W.grownBy w' (some db)

theorem decode (F : Stop.Interp) (a : Option Addr) (n c : Nat) (zs : List Int) (hl : zs.length = n) :
    ∃ (ok : Bool) (x : Int) (s : Bool), Side n ok s x ∧ (0 < n → ok = true → ValidZ zs ∧ x = dnum (yZ zs) (mZ zs) (dZ zs)) ∧
      ∀ W db, F.answers W.tape → Txt W a n zs → DateAt W db 0 false → Calls Tryf.prog 7 #[.pointer (some ⟨db, 0, none⟩), .slice a n c] W fun e w' => Decoded ok x s db W w' e := by
  by_cases h0 : n = 0
  · refine ⟨true, 0, false, .inl ⟨h0, rfl, rfl, rfl⟩, fun h => by omega, fun W db hF ht hd => ?_⟩
    subst h0
    exact (un_empty db a c 0 false W hd).mono fun e w' ⟨h1, h2, h3⟩ => ⟨_, h1, nil_test, h2, h3⟩
  · by_cases hv : ValidZ zs
    · have hb := day_bd (valid_day hv)
      refine ⟨true, _, true, .inr (.inl ⟨by omega, rfl, rfl, hb⟩), fun _ _ => ⟨hv, rfl⟩, fun W db hF ht hd => ?_⟩
      exact (un_yes db a n c zs 0 false W hd ht (by omega) hv).mono fun e w' ⟨h1, h2, h3⟩ => ⟨_, h1, nil_test, h2, h3⟩
    · refine ⟨false, 0, false, .inr (.inr ⟨by omega, rfl, rfl, rfl⟩), fun _ h => (Bool.noConfusion h), fun W db hF ht hd => ?_⟩
      exact (un_no F db a n c zs 0 false W hF hd ht (by omega) hv).mono fun e w' ⟨v, h1, h2, h3⟩ => ⟨_, h1, err_test v, h2, h3⟩

theorem date_new (w : World) : DateAt ((w.alloc (.cells #[.int .i64 0, .bool false] 25)).alloc (.cells #[.int .i64 0, .bool false] 25)) w.heap.size 0 false ∧ DateAt ((w.alloc (.cells #[.int .i64 0, .bool false] 25)).alloc (.cells #[.int .i64 0, .bool false] 25)) (w.heap.size + 1) 0 false := by
  have h1 := heap_alloc_new w (.cells #[.int .i64 0, .bool false] 25)
  have h2 := heap_alloc_new (w.alloc (.cells #[.int .i64 0, .bool false] 25)) (.cells #[.int .i64 0, .bool false] 25)
  have e : (w.alloc (.cells #[.int .i64 0, .bool false] 25)).heap.size = w.heap.size + 1 := by simp
  rw [e] at h2
  exact ⟨date_alloc h1 _, h2⟩

set_option maxRecDepth 100000 in
set_option maxHeartbeats 2000000 in
theorem order_core (F : Stop.Interp) (a0 a1 : Option Addr) (n0 c0 n1 c1 : Nat) (z0 z1 : List Int) (okA okB sa sb : Bool) (xa xb : Int) (w : World) (hF : F.answers w.tape) (h0 : Txt w a0 n0 z0) (h1 : Txt w a1 n1 z1) (hn : n0 ≤ 524288 ∧ n1 ≤ 524288)
    (hA : ∀ W db, F.answers W.tape → Txt W a0 n0 z0 → DateAt W db 0 false → Calls Tryf.prog 7 #[.pointer (some ⟨db, 0, none⟩), .slice a0 n0 c0] W fun e w' => Decoded okA xa sa db W w' e)
    (hB : ∀ W db, F.answers W.tape → Txt W a1 n1 z1 → DateAt W db 0 false → Calls Tryf.prog 7 #[.pointer (some ⟨db, 0, none⟩), .slice a1 n1 c1] W fun e w' => Decoded okB xb sb db W w' e)
    (sA : Side n0 okA sa xa) (sB : Side n1 okB sb xb)
    (hc : 0 < n0 → 0 < n1 → okA = true → okB = true → ∀ W, Txt W a0 n0 z0 → Txt W a1 n1 z1 → Calls Tryf.prog 14 #[.slice a0 n0 c0, .slice a1 n1 c1] W fun e w' => e = .returned (.int .i64 (sgn xa xb)) ∧ ∃ q, w' = W.drewN q) :
    Calls Tryf.prog 4 #[.slice a0 n0 c0, .slice a1 n1 c1] w fun e w' => e = .returned (.bool true) ∧ Below w.heap.size w w' := by
  obtain ⟨i0, i1⟩ := hn
  have HT : Hid (F.answers w.tape) := hF
  have H0 : Hid (Txt w a0 n0 z0) := h0
  have H1 : Hid (Txt w a1 n1 z1) := h1
  have HA : Hid (∀ W db, F.answers W.tape → Txt W a0 n0 z0 → DateAt W db 0 false → Calls Tryf.prog 7 #[.pointer (some ⟨db, 0, none⟩), .slice a0 n0 c0] W fun e w' => Decoded okA xa sa db W w' e) := hA
  have HB : Hid (∀ W db, F.answers W.tape → Txt W a1 n1 z1 → DateAt W db 0 false → Calls Tryf.prog 7 #[.pointer (some ⟨db, 0, none⟩), .slice a1 n1 c1] W fun e w' => Decoded okB xb sb db W w' e) := hB
  have HC : Hid (0 < n0 → 0 < n1 → okA = true → okB = true → ∀ W, Txt W a0 n0 z0 → Txt W a1 n1 z1 → Calls Tryf.prog 14 #[.slice a0 n0 c0, .slice a1 n1 c1] W fun e w' => e = .returned (.int .i64 (sgn xa xb)) ∧ ∃ q, w' = W.drewN q) := hc
  have SA : Hid (Side n0 okA sa xa) := sA
  have SB : Hid (Side n1 okB sb xb) := sB
  clear hF h0 h1 hA hB hc sA sB
  have bw : Below w.heap.size w ((w.alloc (.cells #[.int .i64 0, .bool false] 25)).alloc (.cells #[.int .i64 0, .bool false] 25)) := ((Below.refl _ _).alloc (Nat.le_refl _) _).alloc (by simp) _
  have dw := date_new w
  have BW : Hid (Below w.heap.size w ((w.alloc (.cells #[.int .i64 0, .bool false] 25)).alloc (.cells #[.int .i64 0, .bool false] 25))) := bw
  have D0 := dw.1
  have D1 := dw.2
  have HD0 : Hid (DateAt ((w.alloc (.cells #[.int .i64 0, .bool false] 25)).alloc (.cells #[.int .i64 0, .bool false] 25)) w.heap.size 0 false) := D0
  have HD1 : Hid (DateAt ((w.alloc (.cells #[.int .i64 0, .bool false] 25)).alloc (.cells #[.int .i64 0, .bool false] 25)) (w.heap.size + 1) 0 false) := D1
  clear bw dw D0 D1
  go_enter Tryf.func4, Tryf.ntmps4
  go_wp2_with (first | (go_at_call 11; refine (bytes_yes _ _ _ _ _ _ _ (by omega)).mono ?_; rintro e w' ⟨rfl, rfl⟩))
  refine (HA.out _ _ (by exact HT.out) (H0.out.below BW.out) HD0.out).mono ?_
  rintro e w1 ⟨r, rfl, ⟨hr1, hr2, hr3, hr4⟩, hd1, hg1⟩
  have B1 : Hid (Below w.heap.size w w1) := BW.out.grown hg1 BW.out.size (fun k hk => by cases hk; exact Nat.le_refl _)
  have D1 : Hid (DateAt w1 (w.heap.size + 1) 0 false) := (hg1.block _ (by simp) (by simp)).trans HD1.out
  have E1 : Hid (DateAt w1 w.heap.size xa sa) := hd1
  have T1 : Hid (F.answers w1.tape) := by show F.answers w1.tape; rw [B1.out.tape]; exact HT.out
  clear hd1 hg1 HD0 HD1 BW
  go_wp2_with fail
  refine (HB.out _ _ (by exact T1.out) (H1.out.below B1.out) D1.out).mono ?_
  rintro e w2 ⟨r', rfl, ⟨hs1, hs2, hs3, hs4⟩, hd2, hg2⟩
  have B2 : Hid (Below w.heap.size w w2) := B1.out.grown hg2 B1.out.size (fun k hk => by cases hk; omega)
  have da : DateAt w2 w.heap.size xa sa := (hg2.block _ (lt_of_block E1.out) (by simp)).trans E1.out
  have p0 := da.c0
  have p1 := da.c1
  have q0 := hd2.c0
  have q1 := hd2.c1
  have z0' : w.heap.size < w2.heap.size := lt_of_block da
  have z1' : w.heap.size + 1 < w2.heap.size := lt_of_block hd2
  clear hd2 hg2 D1 E1 T1 da
  have zz : w.heap.size < w2.heap.size + 1 := by omega
  have zz1 : w.heap.size + 1 < w2.heap.size + 1 := by omega
  have zz2 : w.heap.size < w2.heap.size + 1 + 1 := by omega
  have zz3 : w.heap.size + 1 < w2.heap.size + 1 + 1 := by omega
  have zz4 : w.heap.size + 1 < w2.heap.size + 1 + 1 + 1 := by omega
  go_wp2_with fail
  refine (days_any _ _ _).mono ?_
  rintro e w' ⟨rfl, rfl⟩
  go_wp2_with fail
  refine (days_any _ _ _).mono ?_
  rintro e w' ⟨rfl, rfl⟩
  go_wp2_with fail
  refine (set_any _ _ _).mono ?_
  rintro e w' ⟨rfl, rfl⟩
  go_wp2_with fail
  refine (side_any n0 okA sa xa _ SA.out (by omega)).mono ?_
  rintro e w' ⟨rfl, rfl⟩
  go_wp2_with fail
  refine (set_any _ _ _).mono ?_
  rintro e w' ⟨rfl, rfl⟩
  go_wp2_with fail
  refine (side_any n1 okB sb xb _ SB.out (by omega)).mono ?_
  rintro e w' ⟨rfl, rfl⟩
  have BF : Hid (Below w.heap.size w ((((w2.alloc (.cells #[.int .i64 xa, .bool sa] 25)).alloc (.cells #[.int .i64 xb, .bool sb] 25)).alloc (.cells #[.int .i64 xa, .bool sa] 25)).alloc (.cells #[.int .i64 xb, .bool sb] 25))) := (((B2.out.alloc (by omega) _).alloc (by simp; omega) _).alloc (by simp; omega) _).alloc (by simp; omega) _
  clear p0 p1 q0 q1 hr1 hr2 hr3 hr4 hs1 hs2 hs3 hs4 zz zz1 zz2 zz3 zz4 z0' z1'
  by_cases e0 : n0 = 0
  · have g0 : ((n0 : Int) == 0) = true := by simp [e0]
    have E0 : Hid (n0 = 0) := e0
    clear e0
    go_wp2
    go_ret
    exact ⟨rfl, BF.out⟩
  have g0 : ((n0 : Int) == 0) = false := by simp; omega
  by_cases e1 : n1 = 0
  · have g1 : ((n1 : Int) == 0) = true := by simp [e1]
    clear e1
    go_wp2
    go_ret
    exact ⟨rfl, BF.out⟩
  have g1 : ((n1 : Int) == 0) = false := by simp; omega
  cases okA with
  | false =>
    go_wp2
    go_ret
    exact ⟨rfl, BF.out⟩
  | true =>
    cases okB with
    | false =>
      go_wp2
      go_ret
      exact ⟨rfl, BF.out⟩
    | true =>
      have HS : Hid (∀ W, Txt W a0 n0 z0 → Txt W a1 n1 z1 → Calls Tryf.prog 14 #[.slice a0 n0 c0, .slice a1 n1 c1] W fun e w' => e = .returned (.int .i64 (sgn xa xb)) ∧ ∃ q, w' = W.drewN q) := HC.out (by omega) (by omega) rfl rfl
      obtain ⟨sg, hsg⟩ : ∃ sg, sg = sgn xa xb := ⟨_, rfl⟩
      have HSG : Hid (∀ V, Calls Tryf.prog 13 #[.int .i64 xa, .int .i64 xb] V fun e w' => e = .returned (.int .i64 sg) ∧ V = w') := fun V => by rw [hsg]; exact sign_any xa xb V
      rw [← hsg] at HS
      clear hsg
      go_wp2_with fail
      refine (HSG.out _).mono ?_
      rintro e w' ⟨rfl, rfl⟩
      go_wp2_with fail
      refine (HS.out _ (H0.out.below BF.out) (H1.out.below BF.out)).mono ?_
      rintro e w' ⟨rfl, nq, rfl⟩
      go_wp2
      go_ret
      exact ⟨ret_bool (by simp), below_drewN BF.out _⟩

theorem cmp_valid (a0 a1 : Option Addr) (n0 c0 n1 c1 : Nat) (z0 z1 : List Int) (W : World) (h0 : Txt W a0 n0 z0) (h1 : Txt W a1 n1 z1) (v0 : ValidZ z0) (v1 : ValidZ z1) :
    Calls Tryf.prog 14 #[.slice a0 n0 c0, .slice a1 n1 c1] W fun e w' => e = .returned (.int .i64 (sgn (dnum (yZ z0) (mZ z0) (dZ z0)) (dnum (yZ z1) (mZ z1) (dZ z1)))) ∧ ∃ q, w' = W.drewN q := by
  have e0 : n0 = 10 := by rw [← h0.1]; exact v0.1.1
  have e1 : n1 = n0 := by rw [e0, ← h1.1]; exact v1.1.1
  subst e1
  refine (cmp_any a0 a1 n1 c0 c1 z0 z1 W e0 h0 h1).mono ?_
  rintro e w' ⟨r, rfl, hr, hq⟩
  rw [cmp_sgn v0 v1 hr]
  exact ⟨rfl, hq⟩

set_option maxRecDepth 100000 in
set_option maxHeartbeats 1000000 in
theorem order (a0 : Option Addr) (n0 c0 : Nat) (z0 : List Int) (a1 : Option Addr) (n1 c1 : Nat) (z1 : List Int) (F : Stop.Interp) (w : World) (hF : F.answers w.tape) (h0 : Txt w a0 n0 z0) (h1 : Txt w a1 n1 z1) :
    Calls Tryf.prog 4 #[.slice a0 n0 c0, .slice a1 n1 c1] w fun e w' => e = .returned (.bool true) ∧ Below w.heap.size w w' := by
  by_cases g0 : 1048576 < n0 + n1
  · have m0 := h0.2.1
    have m1 := h1.2.1
    clear h0 h1 hF
    go_enter Tryf.func4, Tryf.ntmps4
    go_wp2_with (first | (go_at_call 11; refine (bytes_no _ _ _ _ _ _ _ g0 m0 m1).mono ?_; rintro e w' ⟨rfl, rfl⟩))
    go_ret
    exact ⟨rfl, Below.refl _ _⟩
  by_cases g1 : (524288 : Int) < (n0 : Int)
  · clear h0 h1 hF
    go_enter Tryf.func4, Tryf.ntmps4
    go_wp2_with (first | (go_at_call 11; refine (bytes_yes _ _ _ _ _ _ _ (by omega)).mono ?_; rintro e w' ⟨rfl, rfl⟩))
    go_ret
    exact ⟨rfl, Below.refl _ _⟩
  by_cases g2 : (524288 : Int) < (n1 : Int)
  · clear h0 h1 hF
    go_enter Tryf.func4, Tryf.ntmps4
    go_wp2_with (first | (go_at_call 11; refine (bytes_yes _ _ _ _ _ _ _ (by omega)).mono ?_; rintro e w' ⟨rfl, rfl⟩))
    go_ret
    exact ⟨rfl, Below.refl _ _⟩
  obtain ⟨okA, xa, sa, sA, vA, cA⟩ := decode F a0 n0 c0 z0 h0.1
  obtain ⟨okB, xb, sb, sB, vB, cB⟩ := decode F a1 n1 c1 z1 h1.1
  refine order_core F a0 a1 n0 c0 n1 c1 z0 z1 okA okB sa sb xa xb w hF h0 h1 (by omega) cA cB sA sB ?_
  intro p0 p1 oA oB W t0 t1
  obtain ⟨v0, rfl⟩ := vA p0 oA
  obtain ⟨v1, rfl⟩ := vB p1 oB
  exact cmp_valid a0 a1 n0 c0 n1 c1 z0 z1 W t0 t1 v0 v1

end Go.Proofs.Qxb6630431aFmt.Dates
