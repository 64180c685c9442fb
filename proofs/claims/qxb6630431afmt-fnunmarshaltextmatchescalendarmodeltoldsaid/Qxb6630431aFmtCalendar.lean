/- The walk of FnUnmarshalTextMatchesCalendarModel. -/
import Derived.Test.Qxb6630431aFmtOrder
import Derived.Deep.DeepCutAuto
namespace Go.Proofs.Qxb6630431aFmt.Dates
open Go.RowKit Go.Extern.Stop Go.Stop Go.Extern
set_option linter.unusedVariables false

theorem digit_yes (z : Int) (w : World) (h : okD z) : Calls Tryf.prog 17 #[.int .u8 z] w fun e w' => e = .returned (.tuple #[.int .i64 (z - 48), .bool true]) ∧ w = w' := by
  obtain ⟨h1, h2⟩ := h
  go_enter Tryf.func17, Tryf.ntmps17
  go_wp2
  go_ret2
  exact ⟨rfl, rfl⟩

theorem digit_no (z : Int) (w : World) (hb : 0 ≤ z ∧ z ≤ 255) (h : ¬ okD z) : Calls Tryf.prog 17 #[.int .u8 z] w fun e w' => e = .returned (.tuple #[.int .i64 0, .bool false]) ∧ w = w' := by
  by_cases h1 : z < 48
  · clear h
    go_enter Tryf.func17, Tryf.ntmps17
    go_wp2
    go_ret2
    exact ⟨rfl, rfl⟩
  · have h2 : 57 < z := by unfold okD at h; omega
    clear h
    go_enter Tryf.func17, Tryf.ntmps17
    go_wp2
    go_ret2
    exact ⟨rfl, rfl⟩

def CalEnd (zs : List Int) (w w' : World) (e : Ending) : Prop :=
  (ValidZ zs → e = .returned (.tuple #[.bool true, .int .i64 (dnum (yZ zs) (mZ zs) (dZ zs))])) ∧ (¬ ValidZ zs → e = .returned (.tuple #[.bool false, .int .i64 0])) ∧ Below w.heap.size w w'

theorem cal_bad {zs : List Int} {w w' : World} (h : ¬ ValidZ zs) (hb : Below w.heap.size w w') : CalEnd zs w w' (.returned (.tuple #[.bool false, .int .i64 0])) := ⟨fun v => absurd v h, fun _ => rfl, hb⟩

theorem cal_good {zs : List Int} {w w' : World} {x : Int} (h : ValidZ zs) (e : x = dnum (yZ zs) (mZ zs) (dZ zs)) (hb : Below w.heap.size w w') : CalEnd zs w w' (.returned (.tuple #[.bool true, .int .i64 x])) := ⟨fun _ => by rw [e], fun n => absurd h n, hb⟩

theorem J_bd (y : Int) (h1 : 1900 ≤ y) (h2 : y ≤ 2199) : -25567 ≤ J y ∧ J y ≤ 84006 := by
  have a := J_mono 1900 y h1
  have b := J_mono y 2200 (by omega)
  rw [J_first] at a
  rw [J_last] at b
  exact ⟨a, b⟩

theorem cum_bd (y m : Int) (m1 : 1 ≤ m) (m2 : m ≤ 12) : 0 ≤ cum y m ∧ cum y m ≤ 366 := by
  have a := cum_mono y 1 m (by omega) (by omega) (by omega)
  have b := cum_mono y m 13 (by omega) (by omega) (by omega)
  have c := leapI_bd y
  rw [cum_first] at a
  rw [cum_last] at b
  omega

/-- The array of the digits that were read so far. -/
def Arr (zs : List Int) (k : Nat) (w : World) (g : Nat) : Prop :=
  ∃ L : List Value, w.heap[g]? = some (.cells L.toArray 42 (0, 0)) ∧ L.length = 10 ∧ ∀ j, j < k → j ≠ 4 → j ≠ 7 → L[j]? = some (.int .i64 (zs.getD j 0 - 48)) ∧ okD (zs.getD j 0)

theorem arr_start (w : World) (zs : List Int) : Arr zs 0 (w.alloc (.cells #[.int .i64 0, .int .i64 0, .int .i64 0, .int .i64 0, .int .i64 0, .int .i64 0, .int .i64 0, .int .i64 0, .int .i64 0, .int .i64 0] 42)) w.heap.size :=
  ⟨[.int .i64 0, .int .i64 0, .int .i64 0, .int .i64 0, .int .i64 0, .int .i64 0, .int .i64 0, .int .i64 0, .int .i64 0, .int .i64 0], heap_alloc_new w _, rfl, fun j hj => by omega⟩

theorem arr_skip {zs : List Int} {k : Nat} {w : World} {g : Nat} (h : Arr zs k w g) (hk : k = 4 ∨ k = 7) : Arr zs (k + 1) w g := by
  obtain ⟨L, h1, h2, h3⟩ := h
  exact ⟨L, h1, h2, fun j hj h4 h7 => h3 j (by omega) h4 h7⟩

theorem arr_cell {zs : List Int} {k : Nat} {w : World} {g : Nat} (h : Arr zs k w g) {j : Nat} (hj : j < 10) : ∃ v, w.cell? ⟨g, j, none⟩ = some v := by
  obtain ⟨L, h1, h2, h3⟩ := h
  rw [cell_of_row w g j _ 42 (0, 0) h1, List.getElem?_toArray, List.getElem?_eq_getElem (by omega)]
  exact ⟨_, rfl⟩

theorem arr_free {zs : List Int} {k : Nat} {w : World} {g : Nat} (h : Arr zs k w g) (j : Nat) : w.frozen? ⟨g, j, none⟩ = false := by
  obtain ⟨L, h1, h2, h3⟩ := h
  exact frozen_of_row w g j _ 42 h1

theorem arr_put {zs : List Int} {k : Nat} {w : World} {g : Nat} {z : Int} (h : Arr zs k w g) (hk : k < 10) (hz : z = zs.getD k 0) (hd : okD z) : Arr zs (k + 1) (w.setCell ⟨g, k, none⟩ (.int .i64 (z - 48))) g := by
  obtain ⟨L, h1, h2, h3⟩ := h
  refine ⟨L.set k (.int .i64 (z - 48)), ?_, by simpa using h2, fun j hj h4 h7 => ?_⟩
  · rw [heap_setCell_same w g k _ 42 _ h1]; simp
  · by_cases e : j = k
    · subst e
      rw [List.getElem?_set_self (by omega), ← hz]
      exact ⟨rfl, hd⟩
    · rw [List.getElem?_set_ne (fun e2 => e e2.symm)]
      exact h3 j (by omega) h4 h7

theorem arr_at {zs : List Int} {w : World} {g : Nat} (h : Arr zs 10 w g) (j : Nat) (hj : j < 10) (h4 : j ≠ 4) (h7 : j ≠ 7) : w.cell? ⟨g, j, none⟩ = some (.int .i64 (zs.getD j 0 - 48)) ∧ okD (zs.getD j 0) := by
  obtain ⟨L, h1, h2, h3⟩ := h
  rw [cell_of_row w g j _ 42 (0, 0) h1, List.getElem?_toArray]
  exact h3 j hj h4 h7

theorem txt_bd {w : World} {a : Option Addr} {n : Nat} {zs : List Int} (h : Txt w a n zs) (k : Nat) : 0 ≤ zs.getD k 0 ∧ zs.getD k 0 ≤ 255 := by
  rw [List.getD_eq_getElem?_getD]
  rcases Nat.lt_or_ge k zs.length with h1 | h1
  · rw [List.getElem?_eq_getElem h1]; exact h.2.2.2 _ (List.getElem_mem h1)
  · rw [List.getElem?_eq_none h1]; simp

theorem form_digit {zs : List Int} {k : Nat} (h : FormZ zs) (hk : k < 10) (h4 : k ≠ 4) (h7 : k ≠ 7) : okD (zs.getD k 0) := by
  obtain ⟨_, _, _, ⟨a0, a1, a2, a3⟩, ⟨a5, a6⟩, ⟨a8, a9⟩⟩ := h
  rcases (show k = 0 ∨ k = 1 ∨ k = 2 ∨ k = 3 ∨ k = 5 ∨ k = 6 ∨ k = 8 ∨ k = 9 from by omega) with rfl | rfl | rfl | rfl | rfl | rfl | rfl | rfl <;> assumption

theorem info3 : (Tryf.prog.info? 3).map (fun i => (i.zero, i.size, i.bytes)) = some (some (.int .i64 0), 1, 8) := by kernel_rfl

theorem idx42 (g k : Nat) (hk : k < 10) (w : World) : (Instr.indexAt 42 (.pointer (some ⟨g, 0, none⟩)) (.int .i64 (k : Int))).run Tryf.prog w = .ok (.pointer (some ⟨g, k, none⟩)) w := by
  obtain ⟨i, hi, hz, hsz, hb⟩ := info_parts info3
  rw [run_indexAt_array w 42 _ .i64 _ (by kernel_rfl)]
  have hl : Tryf.prog.arrayLen 42 = 10 := by kernel_rfl
  have he : Tryf.prog.elem 42 = 3 := by kernel_rfl
  rw [hl, he, if_pos ⟨by omega, by omega⟩]
  simp [sizeOf, typeInfo, hi, hsz, add_mk, Result.andThen]

theorem idx4 (a : Option Addr) (n c : Nat) (zs : List Int) (w : World) (h : Txt w a n zs) (hn : n = 10) (k : Nat) (K : Int) (hK : K = (k : Int)) (hk : k < 10) :
    ∃ b off, (∀ V, (Instr.indexAt 22 (.slice a n c) (.int .i64 K)).run Tryf.prog V = .ok (.pointer (some ⟨b, off + k, none⟩)) V) ∧ w.cell? ⟨b, off + k, none⟩ = some (.int .u8 (zs.getD k 0)) := by
  obtain ⟨b, off, ha, hc⟩ := h.2.2.1 k (by omega)
  subst hK
  exact ⟨b, off, idx22 a n c k b off ha (by omega), hc⟩

set_option maxRecDepth 100000 in
set_option maxHeartbeats 4000000 in
theorem cal_any (a : Option Addr) (n c : Nat) (zs : List Int) (w : World) (h : Txt w a n zs) : Calls Tryf.prog 10 #[.slice a n c] w fun e w' => CalEnd zs w w' e := by
  have HX : Hid (Txt w a n zs) := h
  by_cases hn : n = 10
  · have g1 : ((n : Int) != 10) = false := by simp [hn]
    have i4 := idx4 a n c zs w h hn 4 4 rfl (by omega)
    have i7 := idx4 a n c zs w h hn 7 7 rfl (by omega)
    obtain ⟨b4, o4, x4, c4⟩ := i4
    obtain ⟨b7, o7, x7, c7⟩ := i7
    have HN : Hid (n = 10) := hn
    clear h hn
    by_cases e4 : zs.getD 4 0 = 45
    · have g4 : (zs.getD 4 0 != 45) = false := by rw [e4]; rfl
      have E4 : Hid (zs.getD 4 0 = 45) := e4
      clear e4
      by_cases e7 : zs.getD 7 0 = 45
      · have g7 : (zs.getD 7 0 != 45) = false := by rw [e7]; rfl
        have E7 : Hid (zs.getD 7 0 = 45) := e7
        clear e7
        obtain ⟨u4, hu4⟩ : ∃ u, u = zs.getD 4 0 := ⟨_, rfl⟩
        obtain ⟨u7, hu7⟩ : ∃ u, u = zs.getD 7 0 := ⟨_, rfl⟩
        rw [← hu4] at g4 c4
        rw [← hu7] at g7 c7
        clear hu4 hu7
        go_enter Tryf.func10, Tryf.ntmps10
        go_wp2_with fail
        go_loopw [5] (fun i wr => ∃ k : Nat, k ≤ 10 ∧ i = .int .i64 k ∧ Arr zs k wr w.heap.size ∧ Below w.heap.size w wr) (fun i _ => 10 - (intOf i).toNat)
        case atStart => exact ⟨0, Nat.zero_le _, rfl, arr_start w zs, (Below.refl _ _).alloc (Nat.le_refl _) _⟩
        case round =>
          obtain ⟨k, hk, rfl, harr, hbel⟩ := hrel
          have AR : Hid (Arr zs k wr w.heap.size) := harr
          have BL : Hid (Below w.heap.size w wr) := hbel
          clear harr hbel
          by_cases hlt : k < 10
          · have j1 : (k : Int) < 10 := by omega
            by_cases k4 : k = 4
            · have q4 : ((k : Int) == 4) = true := by simp [k4]
              have NX : Hid (Arr zs (k + 1) wr w.heap.size) := arr_skip AR.out (.inl k4)
              clear k4
              go_wp2
              go_roundw
              case rel => exact ⟨k + 1, by omega, by go_num, NX.out, BL.out⟩
              case measure => simp [intOf]; omega
            · have q4 : ((k : Int) == 4) = false := by simp; omega
              by_cases k7 : k = 7
              · have q7 : ((k : Int) == 7) = true := by simp [k7]
                have NX : Hid (Arr zs (k + 1) wr w.heap.size) := arr_skip AR.out (.inr k7)
                clear k4 k7
                go_wp2
                go_roundw
                case rel => exact ⟨k + 1, by omega, by go_num, NX.out, BL.out⟩
                case measure => simp [intOf]; omega
              · have q7 : ((k : Int) == 7) = false := by simp; omega
                obtain ⟨bk, ok, xk, ck⟩ := idx4 a n c zs w HX.out HN.out k k rfl hlt
                have ckr : wr.cell? ⟨bk, ok + k, none⟩ = some (.int .u8 (zs.getD k 0)) := (BL.out.cell (World.block_lt_of_cell? w _ ck)).trans ck
                have zb : 0 ≤ zs.getD k 0 ∧ zs.getD k 0 ≤ 255 := txt_bd HX.out k
                obtain ⟨z, hz⟩ : ∃ z, z = zs.getD k 0 := ⟨_, rfl⟩
                rw [← hz] at ckr zb
                clear ck
                by_cases hd : okD z
                · have hia := idx42 w.heap.size k hlt
                  obtain ⟨v0, hv0⟩ := arr_cell AR.out hlt
                  have hfr := arr_free AR.out k
                  have NX : Hid (Arr zs (k + 1) (wr.setCell ⟨w.heap.size, k, none⟩ (.int .i64 (z - 48))) w.heap.size) := arr_put AR.out hlt hz hd
                  have HDG : Hid (∀ V, Calls Tryf.prog 17 #[.int .u8 z] V fun e w' => e = .returned (.tuple #[.int .i64 (z - 48), .bool true]) ∧ V = w') := fun V => digit_yes z V hd
                  clear hz hd k4 k7
                  go_wp2_with (first | (go_at_call 17; refine (HDG.out _).mono ?_; rintro e w' ⟨rfl, rfl⟩))
                  go_roundw
                  case rel => exact ⟨k + 1, by omega, by go_num, NX.out, BL.out.setCell (Nat.le_refl _) _⟩
                  case measure => simp [intOf]; omega
                · have NV : Hid (¬ ValidZ zs) := fun v => hd (by rw [hz]; exact form_digit v.1 hlt k4 k7)
                  have HDG : Hid (∀ V, Calls Tryf.prog 17 #[.int .u8 z] V fun e w' => e = .returned (.tuple #[.int .i64 0, .bool false]) ∧ V = w') := fun V => digit_no z V zb hd
                  clear hz hd k4 k7
                  go_wp2_with (first | (go_at_call 17; refine (HDG.out _).mono ?_; rintro e w' ⟨rfl, rfl⟩))
                  go_ret2
                  exact cal_bad NV.out BL.out
          · have j1 : (10 : Int) ≤ (k : Int) := by omega
            have AR2 : Hid (Arr zs 10 wr w.heap.size) := by
              have e : k = 10 := by omega
              rw [← e]; exact AR.out
            clear AR
            go_upto_region 12 with fail
            obtain ⟨c0, ok0⟩ := arr_at AR2.out 0 (by omega) (by omega) (by omega)
            obtain ⟨v0, hv0⟩ : ∃ v, v = zs.getD 0 0 - 48 := ⟨_, rfl⟩
            rw [← hv0] at c0
            have bd0 : 0 ≤ v0 ∧ v0 ≤ 9 := by rw [hv0]; unfold okD at ok0; omega
            obtain ⟨c1, ok1⟩ := arr_at AR2.out 1 (by omega) (by omega) (by omega)
            obtain ⟨v1, hv1⟩ : ∃ v, v = zs.getD 1 0 - 48 := ⟨_, rfl⟩
            rw [← hv1] at c1
            have bd1 : 0 ≤ v1 ∧ v1 ≤ 9 := by rw [hv1]; unfold okD at ok1; omega
            obtain ⟨c2, ok2⟩ := arr_at AR2.out 2 (by omega) (by omega) (by omega)
            obtain ⟨v2, hv2⟩ : ∃ v, v = zs.getD 2 0 - 48 := ⟨_, rfl⟩
            rw [← hv2] at c2
            have bd2 : 0 ≤ v2 ∧ v2 ≤ 9 := by rw [hv2]; unfold okD at ok2; omega
            obtain ⟨c3, ok3⟩ := arr_at AR2.out 3 (by omega) (by omega) (by omega)
            obtain ⟨v3, hv3⟩ : ∃ v, v = zs.getD 3 0 - 48 := ⟨_, rfl⟩
            rw [← hv3] at c3
            have bd3 : 0 ≤ v3 ∧ v3 ≤ 9 := by rw [hv3]; unfold okD at ok3; omega
            obtain ⟨c5, ok5⟩ := arr_at AR2.out 5 (by omega) (by omega) (by omega)
            obtain ⟨v5, hv5⟩ : ∃ v, v = zs.getD 5 0 - 48 := ⟨_, rfl⟩
            rw [← hv5] at c5
            have bd5 : 0 ≤ v5 ∧ v5 ≤ 9 := by rw [hv5]; unfold okD at ok5; omega
            obtain ⟨c6, ok6⟩ := arr_at AR2.out 6 (by omega) (by omega) (by omega)
            obtain ⟨v6, hv6⟩ : ∃ v, v = zs.getD 6 0 - 48 := ⟨_, rfl⟩
            rw [← hv6] at c6
            have bd6 : 0 ≤ v6 ∧ v6 ≤ 9 := by rw [hv6]; unfold okD at ok6; omega
            obtain ⟨c8, ok8⟩ := arr_at AR2.out 8 (by omega) (by omega) (by omega)
            obtain ⟨v8, hv8⟩ : ∃ v, v = zs.getD 8 0 - 48 := ⟨_, rfl⟩
            rw [← hv8] at c8
            have bd8 : 0 ≤ v8 ∧ v8 ≤ 9 := by rw [hv8]; unfold okD at ok8; omega
            obtain ⟨c9, ok9⟩ := arr_at AR2.out 9 (by omega) (by omega) (by omega)
            obtain ⟨v9, hv9⟩ : ∃ v, v = zs.getD 9 0 - 48 := ⟨_, rfl⟩
            rw [← hv9] at c9
            have bd9 : 0 ≤ v9 ∧ v9 ≤ 9 := by rw [hv9]; unfold okD at ok9; omega
            have FM : Hid (FormZ zs) := ⟨by rw [HX.out.1]; exact HN.out, E4.out, E7.out, ⟨ok0, ok1, ok2, ok3⟩, ⟨ok5, ok6⟩, ⟨ok8, ok9⟩⟩
            have HY : Hid (v0 * 1000 + v1 * 100 + v2 * 10 + v3 = yZ zs) := by show _ = _; rw [yZ, hv0, hv1, hv2, hv3]
            have HM : Hid (v5 * 10 + v6 = mZ zs) := by show _ = _; rw [mZ, hv5, hv6]
            have HDD : Hid (v8 * 10 + v9 = dZ zs) := by show _ = _; rw [dZ, hv8, hv9]
            clear hv0 ok0 hv1 ok1 hv2 ok2 hv3 ok3 hv5 ok5 hv6 ok6 hv8 ok8 hv9 ok9
            go_upto_region 15 with fail
            obtain ⟨y, hy⟩ : ∃ y, y = v0 * 1000 + v1 * 100 + v2 * 10 + v3 := ⟨_, rfl⟩
            obtain ⟨m, hm⟩ : ∃ m, m = v5 * 10 + v6 := ⟨_, rfl⟩
            obtain ⟨d, hd⟩ : ∃ d, d = v8 * 10 + v9 := ⟨_, rfl⟩
            rw [← hy, ← hm, ← hd]
            have yb : 0 ≤ y ∧ y ≤ 9999 := by omega
            have mb : 0 ≤ m ∧ m ≤ 99 := by omega
            have db : 0 ≤ d ∧ d ≤ 99 := by omega
            have Y : Hid (y = yZ zs) := by show _ = _; rw [hy]; exact HY.out
            have M : Hid (m = mZ zs) := by show _ = _; rw [hm]; exact HM.out
            have DD : Hid (d = dZ zs) := by show _ = _; rw [hd]; exact HDD.out
            clear hy hm hd HY HM HDD c0 c1 c2 c3 c5 c6 c8 c9 bd0 bd1 bd2 bd3 bd5 bd6 bd8 bd9 AR2
            by_cases t0 : y < 1900
            · have NV : Hid (¬ ValidZ zs) := fun v => by have h := v.2; rw [← Y.out, ← M.out, ← DD.out] at h; omega
              go_wp2_with fail
              go_ret2
              exact cal_bad NV.out BL.out
            by_cases t1 : 2199 < y
            · have NV : Hid (¬ ValidZ zs) := fun v => by have h := v.2; rw [← Y.out, ← M.out, ← DD.out] at h; omega
              go_wp2_with fail
              go_ret2
              exact cal_bad NV.out BL.out
            by_cases t2 : m < 1
            · have NV : Hid (¬ ValidZ zs) := fun v => by have h := v.2; rw [← Y.out, ← M.out, ← DD.out] at h; omega
              go_wp2_with fail
              go_ret2
              exact cal_bad NV.out BL.out
            by_cases t3 : 12 < m
            · have NV : Hid (¬ ValidZ zs) := fun v => by have h := v.2; rw [← Y.out, ← M.out, ← DD.out] at h; omega
              go_wp2_with fail
              go_ret2
              exact cal_bad NV.out BL.out
            by_cases t4 : d < 1
            · have NV : Hid (¬ ValidZ zs) := fun v => by have h := v.2; rw [← Y.out, ← M.out, ← DD.out] at h; omega
              go_wp2_with fail
              go_ret2
              exact cal_bad NV.out BL.out
            obtain ⟨D, hD⟩ : ∃ D, D = dim y m := ⟨_, rfl⟩
            have Db : 28 ≤ D ∧ D ≤ 31 := by rw [hD]; exact dim_bd y m
            have HML : Hid (∀ V, Calls Tryf.prog 18 #[.int .i64 y, .int .i64 m] V fun e w' => e = .returned (.int .i64 D) ∧ V = w') := fun V => by rw [hD]; exact monthLen_any y m V (by omega) (by omega) (by omega) (by omega)
            have HD : Hid (D = dim y m) := hD
            clear hD
            by_cases t5 : D < d
            · have NV : Hid (¬ ValidZ zs) := fun v => by have h := v.2; rw [← Y.out, ← M.out, ← DD.out, ← HD.out] at h; omega
              go_wp2_with (first | (go_at_call 18; refine (HML.out _).mono ?_; rintro e w' ⟨rfl, rfl⟩))
              go_ret2
              exact cal_bad NV.out BL.out
            have VD : Hid (ValidZ zs) := ⟨FM.out, by rw [← Y.out, ← M.out, ← DD.out, ← HD.out]; omega⟩
            have jb := J_bd y (by omega) (by omega)
            go_wp2_with (first | (go_at_call 18; refine (HML.out _).mono ?_; rintro e w' ⟨rfl, rfl⟩))
            go_loop [11, 12] (fun s i => ∃ yy ds : Int, 1900 ≤ yy ∧ yy ≤ y ∧ i = .int .i64 yy ∧ s = .int .i64 ds ∧ ds = J yy) (fun _ i => (y - intOf i).toNat)
            case atStart => exact ⟨1900, -25567, by omega, by omega, rfl, rfl, J_first.symm⟩
            case round =>
              obtain ⟨yy, ds, l1, l2, rfl, rfl, hj⟩ := hrel
              have jb2 := J_bd yy l1 (by omega)
              rw [← hj] at jb2
              have HJ : Hid (ds = J yy) := hj
              clear hj
              by_cases ly : yy < y
              · cases hl : leapB yy with
                | true =>
                  have HS : Hid (ds + 366 = J (yy + 1)) := by show _ = _; rw [J_succ, HJ.out, leapI, hl]; simp; omega
                  have HLP : Hid (∀ V, Calls Tryf.prog 19 #[.int .i64 yy] V fun e w' => e = .returned (.bool true) ∧ V = w') := fun V => by rw [← hl]; exact zzLeap_any yy V (by omega) (by omega)
                  clear hl
                  go_wp2_with (first | (go_at_call 19; refine (HLP.out _).mono ?_; rintro e w' ⟨rfl, rfl⟩))
                  go_round
                  case rel => exact ⟨yy + 1, _, by omega, by omega, rfl, rfl, HS.out⟩
                  case measure => simp [intOf]; omega
                | false =>
                  have HS : Hid (ds + 365 = J (yy + 1)) := by show _ = _; rw [J_succ, HJ.out, leapI, hl]; simp
                  have HLP : Hid (∀ V, Calls Tryf.prog 19 #[.int .i64 yy] V fun e w' => e = .returned (.bool false) ∧ V = w') := fun V => by rw [← hl]; exact zzLeap_any yy V (by omega) (by omega)
                  clear hl
                  go_wp2_with (first | (go_at_call 19; refine (HLP.out _).mono ?_; rintro e w' ⟨rfl, rfl⟩))
                  go_round
                  case rel => exact ⟨yy + 1, _, by omega, by omega, rfl, rfl, HS.out⟩
                  case measure => simp [intOf]; omega
              · have HJ2 : Hid (ds = J y) := by
                  have e : yy = y := by omega
                  rw [← e]; exact HJ.out
                clear HJ
                go_wp2_with fail
                go_loop [11, 13] (fun s i => ∃ mm es : Int, 1 ≤ mm ∧ mm ≤ m ∧ i = .int .i64 mm ∧ s = .int .i64 es ∧ es = J y + cum y mm) (fun _ i => (m - intOf i).toNat)
                case atStart => exact ⟨1, ds, by omega, by omega, rfl, rfl, by rw [HJ2.out, cum_first]; omega⟩
                case round =>
                  obtain ⟨mm, es, r1, r2, rfl, rfl, hes⟩ := hrel
                  have cb := cum_bd y mm r1 (by omega)
                  have eb : -100000 ≤ es ∧ es ≤ 100000 := by omega
                  have HES : Hid (es = J y + cum y mm) := hes
                  clear hes cb
                  by_cases lm : mm < m
                  · obtain ⟨Q, hQ⟩ : ∃ Q, Q = dim y mm := ⟨_, rfl⟩
                    have Qb : 28 ≤ Q ∧ Q ≤ 31 := by rw [hQ]; exact dim_bd y mm
                    have HQ : Hid (∀ V, Calls Tryf.prog 18 #[.int .i64 y, .int .i64 mm] V fun e w' => e = .returned (.int .i64 Q) ∧ V = w') := fun V => by rw [hQ]; exact monthLen_any y mm V (by omega) (by omega) (by omega) (by omega)
                    have HS : Hid (es + Q = J y + cum y (mm + 1)) := by show _ = _; rw [← cum_succ y mm r1 (by omega), HES.out, hQ]; omega
                    clear hQ
                    go_wp2_with (first | (go_at_call 18; refine (HQ.out _).mono ?_; rintro e w' ⟨rfl, rfl⟩))
                    go_round
                    case rel => exact ⟨mm + 1, _, by omega, by omega, rfl, rfl, HS.out⟩
                    case measure => simp [intOf]; omega
                  · have FIN : Hid (es + d - 1 = dnum (yZ zs) (mZ zs) (dZ zs)) := by
                      show _ = _
                      have e : mm = m := by omega
                      rw [← Y.out, ← M.out, ← DD.out, dnum_eq y m d (by omega) (by omega), HES.out, e]
                    go_wp2_with fail
                    go_ret2
                    exact cal_good VD.out FIN.out BL.out
      · have g7 : (zs.getD 7 0 != 45) = true := by simpa using e7
        have NV : Hid (¬ ValidZ zs) := fun v => e7 v.1.2.2.1
        clear e7
        obtain ⟨u4, hu4⟩ : ∃ u, u = zs.getD 4 0 := ⟨_, rfl⟩
        obtain ⟨u7, hu7⟩ : ∃ u, u = zs.getD 7 0 := ⟨_, rfl⟩
        rw [← hu4] at g4 c4
        rw [← hu7] at g7 c7
        clear hu4 hu7
        go_enter Tryf.func10, Tryf.ntmps10
        go_wp2_with fail
        go_ret2
        exact cal_bad NV.out (Below.refl _ _)
    · have g4 : (zs.getD 4 0 != 45) = true := by simpa using e4
      have NV : Hid (¬ ValidZ zs) := fun v => e4 v.1.2.1
      clear e4
      obtain ⟨u4, hu4⟩ : ∃ u, u = zs.getD 4 0 := ⟨_, rfl⟩
      rw [← hu4] at g4 c4
      clear hu4 c7
      go_enter Tryf.func10, Tryf.ntmps10
      go_wp2_with fail
      go_ret2
      exact cal_bad NV.out (Below.refl _ _)
  · have g1 : ((n : Int) != 10) = true := by simp; omega
    have NV : Hid (¬ ValidZ zs) := fun v => hn (by rw [← h.1]; exact v.1.1)
    clear hn h
    go_enter Tryf.func10, Tryf.ntmps10
    go_wp2_with fail
    go_ret2
    exact cal_bad NV.out (Below.refl _ _)

theorem bytes5_yes (a : Option Addr) (n c : Nat) (x : Int) (b : Bool) (w : World) (h : n ≤ 1048576) : Calls Tryf.prog 5 #[.slice a n c, .int .i64 x, .bool b] w fun e w' => e = .returned (.bool true) ∧ w = w' := by
  have h1 : (n : Int) ≤ 1048576 := by omega
  go_enter Tryf.func5, Tryf.ntmps5
  go_wp2
  go_ret
  exact ⟨rfl, rfl⟩

theorem bytes5_no (a : Option Addr) (n c : Nat) (x : Int) (b : Bool) (w : World) (h : 1048576 < n) (hm : n ≤ 9223372036854775807) : Calls Tryf.prog 5 #[.slice a n c, .int .i64 x, .bool b] w fun e w' => e = .returned (.bool false) ∧ w = w' := by
  have h1 : 1048576 < (n : Int) := by omega
  go_enter Tryf.func5, Tryf.ntmps5
  go_wp2
  go_ret
  exact ⟨rfl, rfl⟩

theorem make_any (x : Int) (b : Bool) (w : World) : Calls Tryf.prog 6 #[.int .i64 x, .bool b] w fun e w' => e = .returned (.agg #[.int .i64 x, .bool b]) ∧ w.alloc (.cells #[.int .i64 x, .bool b] 25) = w' := by
  go_enter Tryf.func6, Tryf.ntmps6
  go_wp2
  exact bodyPost_ret (v := .agg #[.int .i64 x, .bool b]) (by simp [results, Tryf.results6, go_sem]) rfl ⟨rfl, rfl⟩

theorem date_two (w : World) (x : Int) (b : Bool) : DateAt ((w.alloc (.cells #[.int .i64 x, .bool b] 25)).alloc (.cells #[.int .i64 x, .bool b] 25)) (w.heap.size + 1) x b := by
  have h2 := heap_alloc_new (w.alloc (.cells #[.int .i64 x, .bool b] 25)) (.cells #[.int .i64 x, .bool b] 25)
  have e : (w.alloc (.cells #[.int .i64 x, .bool b] 25)).heap.size = w.heap.size + 1 := by simp
  rw [e] at h2
  exact h2

set_option maxRecDepth 100000 in
set_option maxHeartbeats 2000000 in
theorem cal_empty (F : Stop.Interp) (a : Option Addr) (n c : Nat) (zs : List Int) (x : Int) (b : Bool) (w : World) (h0 : n = 0) (hF : F.answers w.tape) (h : Txt w a n zs) (hn : n ≤ 1048576) (q1 : b = true → -25567 ≤ x ∧ x ≤ 84005) (q2 : b = false → (x != 0) = false)
    (dc : ∀ W db, F.answers W.tape → Txt W a n zs → DateAt W db x b → Calls Tryf.prog 7 #[.pointer (some ⟨db, 0, none⟩), .slice a n c] W fun e w' => Decoded true (0 : Int) false db W w' e) :
    Calls Tryf.prog 3 #[.slice a n c, .int .i64 x, .bool b] w fun e w' => e = .returned (.bool true) ∧ Below w.heap.size w w' := by
  have HT : Hid (F.answers w.tape) := hF
  have HX : Hid (Txt w a n zs) := h
  have HA : Hid (∀ W db, F.answers W.tape → Txt W a n zs → DateAt W db x b → Calls Tryf.prog 7 #[.pointer (some ⟨db, 0, none⟩), .slice a n c] W fun e w' => Decoded true (0 : Int) false db W w' e) := dc
  have BW : Hid (Below w.heap.size w ((w.alloc (.cells #[.int .i64 x, .bool b] 25)).alloc (.cells #[.int .i64 x, .bool b] 25))) := ((Below.refl _ _).alloc (Nat.le_refl _) _).alloc (by simp) _
  have HD : Hid (DateAt ((w.alloc (.cells #[.int .i64 x, .bool b] 25)).alloc (.cells #[.int .i64 x, .bool b] 25)) (w.heap.size + 1) x b) := date_two w x b
  have g0 : ((n : Int) == 0) = true := by simp [h0]
  clear h0
  clear hF h dc
  have i0 : (n : Int) ≤ 1048576 := by omega
  cases b with
  | true =>
    obtain ⟨q3, q4⟩ := q1 rfl
    clear q1 q2
    go_enter Tryf.func3, Tryf.ntmps3
    go_wp2_with (first | (go_at_call 5; refine (bytes5_yes _ _ _ _ _ _ hn).mono ?_; rintro e w' ⟨rfl, rfl⟩) | (go_at_call 6; refine (make_any _ _ _).mono ?_; rintro e w' ⟨rfl, rfl⟩))
    refine (HA.out _ _ (by exact HT.out) (HX.out.below BW.out) HD.out).mono ?_
    rintro e w1 ⟨r, rfl, ⟨t1, t2, t3, t4⟩, hd, hg⟩
    have B1 : Hid (Below w.heap.size w w1) := BW.out.grown hg BW.out.size (fun k hk => by cases hk; omega)
    have p0 := hd.c0
    have p1 := hd.c1
    have z1 : w.heap.size + 1 < w1.heap.size := lt_of_block hd
    have z2 : w.heap.size + 1 < w1.heap.size + 1 := by omega
    clear hd hg
    go_wp2_with fail
    refine (days_any _ _ _).mono ?_
    rintro e w' ⟨rfl, rfl⟩
    go_wp2_with fail
    refine (set_any _ _ _).mono ?_
    rintro e w' ⟨rfl, rfl⟩
    have BF : Hid (Below w.heap.size w ((w1.alloc (.cells #[.int .i64 0, .bool false] 25)).alloc (.cells #[.int .i64 0, .bool false] 25))) := (B1.out.alloc (by omega) _).alloc (by simp; omega) _
    clear p0 p1
    go_wp2
    go_ret
    exact ⟨rfl, BF.out⟩
  | false =>
    have q3 := q2 rfl
    clear q1 q2
    go_enter Tryf.func3, Tryf.ntmps3
    go_wp2_with (first | (go_at_call 5; refine (bytes5_yes _ _ _ _ _ _ hn).mono ?_; rintro e w' ⟨rfl, rfl⟩) | (go_at_call 6; refine (make_any _ _ _).mono ?_; rintro e w' ⟨rfl, rfl⟩))
    refine (HA.out _ _ (by exact HT.out) (HX.out.below BW.out) HD.out).mono ?_
    rintro e w1 ⟨r, rfl, ⟨t1, t2, t3, t4⟩, hd, hg⟩
    have B1 : Hid (Below w.heap.size w w1) := BW.out.grown hg BW.out.size (fun k hk => by cases hk; omega)
    have p0 := hd.c0
    have p1 := hd.c1
    have z1 : w.heap.size + 1 < w1.heap.size := lt_of_block hd
    have z2 : w.heap.size + 1 < w1.heap.size + 1 := by omega
    clear hd hg
    go_wp2_with fail
    refine (days_any _ _ _).mono ?_
    rintro e w' ⟨rfl, rfl⟩
    go_wp2_with fail
    refine (set_any _ _ _).mono ?_
    rintro e w' ⟨rfl, rfl⟩
    have BF : Hid (Below w.heap.size w ((w1.alloc (.cells #[.int .i64 0, .bool false] 25)).alloc (.cells #[.int .i64 0, .bool false] 25))) := (B1.out.alloc (by omega) _).alloc (by simp; omega) _
    clear p0 p1
    go_wp2
    go_ret
    exact ⟨rfl, BF.out⟩

set_option maxRecDepth 100000 in
set_option maxHeartbeats 2000000 in
theorem cal_valid (F : Stop.Interp) (a : Option Addr) (n c : Nat) (zs : List Int) (x : Int) (b : Bool) (w : World) (y : Int) (h0 : 0 < n) (hc : ∀ V, Txt V a n zs → Calls Tryf.prog 10 #[.slice a n c] V fun e w' => e = .returned (.tuple #[.bool true, .int .i64 y]) ∧ Below V.heap.size V w') (hF : F.answers w.tape) (h : Txt w a n zs) (hn : n ≤ 1048576) (q1 : b = true → -25567 ≤ x ∧ x ≤ 84005) (q2 : b = false → (x != 0) = false)
    (dc : ∀ W db, F.answers W.tape → Txt W a n zs → DateAt W db x b → Calls Tryf.prog 7 #[.pointer (some ⟨db, 0, none⟩), .slice a n c] W fun e w' => Decoded true (y : Int) true db W w' e) :
    Calls Tryf.prog 3 #[.slice a n c, .int .i64 x, .bool b] w fun e w' => e = .returned (.bool true) ∧ Below w.heap.size w w' := by
  have HT : Hid (F.answers w.tape) := hF
  have HX : Hid (Txt w a n zs) := h
  have HA : Hid (∀ W db, F.answers W.tape → Txt W a n zs → DateAt W db x b → Calls Tryf.prog 7 #[.pointer (some ⟨db, 0, none⟩), .slice a n c] W fun e w' => Decoded true (y : Int) true db W w' e) := dc
  have BW : Hid (Below w.heap.size w ((w.alloc (.cells #[.int .i64 x, .bool b] 25)).alloc (.cells #[.int .i64 x, .bool b] 25))) := ((Below.refl _ _).alloc (Nat.le_refl _) _).alloc (by simp) _
  have HD : Hid (DateAt ((w.alloc (.cells #[.int .i64 x, .bool b] 25)).alloc (.cells #[.int .i64 x, .bool b] 25)) (w.heap.size + 1) x b) := date_two w x b
  have HC : Hid (∀ V, Txt V a n zs → Calls Tryf.prog 10 #[.slice a n c] V fun e w' => e = .returned (.tuple #[.bool true, .int .i64 y]) ∧ Below V.heap.size V w') := hc
  have g0 : ((n : Int) == 0) = false := by simp; omega
  clear hc
  clear hF h dc
  have i0 : (n : Int) ≤ 1048576 := by omega
  cases b with
  | true =>
    obtain ⟨q3, q4⟩ := q1 rfl
    clear q1 q2
    go_enter Tryf.func3, Tryf.ntmps3
    go_wp2_with (first | (go_at_call 5; refine (bytes5_yes _ _ _ _ _ _ hn).mono ?_; rintro e w' ⟨rfl, rfl⟩) | (go_at_call 6; refine (make_any _ _ _).mono ?_; rintro e w' ⟨rfl, rfl⟩))
    refine (HA.out _ _ (by exact HT.out) (HX.out.below BW.out) HD.out).mono ?_
    rintro e w1 ⟨r, rfl, ⟨t1, t2, t3, t4⟩, hd, hg⟩
    have B1 : Hid (Below w.heap.size w w1) := BW.out.grown hg BW.out.size (fun k hk => by cases hk; omega)
    have p0 := hd.c0
    have p1 := hd.c1
    have z1 : w.heap.size + 1 < w1.heap.size := lt_of_block hd
    have z2 : w.heap.size + 1 < w1.heap.size + 1 := by omega
    clear hd hg
    go_wp2_with fail
    refine (days_any _ _ _).mono ?_
    rintro e w' ⟨rfl, rfl⟩
    go_wp2_with fail
    refine (set_any _ _ _).mono ?_
    rintro e w' ⟨rfl, rfl⟩
    have BF : Hid (Below w.heap.size w ((w1.alloc (.cells #[.int .i64 y, .bool true] 25)).alloc (.cells #[.int .i64 y, .bool true] 25))) := (B1.out.alloc (by omega) _).alloc (by simp; omega) _
    clear p0 p1
    go_wp2_with fail
    refine (HC.out _ (HX.out.below BF.out)).mono ?_
    rintro e w3 ⟨rfl, hb3⟩
    have B3 : Hid (Below w.heap.size w w3) := BF.out.trans (hb3.mono BF.out.size)
    clear hb3
    go_wp2
    go_ret
    exact ⟨ret_bool (by simp), B3.out⟩
  | false =>
    have q3 := q2 rfl
    clear q1 q2
    go_enter Tryf.func3, Tryf.ntmps3
    go_wp2_with (first | (go_at_call 5; refine (bytes5_yes _ _ _ _ _ _ hn).mono ?_; rintro e w' ⟨rfl, rfl⟩) | (go_at_call 6; refine (make_any _ _ _).mono ?_; rintro e w' ⟨rfl, rfl⟩))
    refine (HA.out _ _ (by exact HT.out) (HX.out.below BW.out) HD.out).mono ?_
    rintro e w1 ⟨r, rfl, ⟨t1, t2, t3, t4⟩, hd, hg⟩
    have B1 : Hid (Below w.heap.size w w1) := BW.out.grown hg BW.out.size (fun k hk => by cases hk; omega)
    have p0 := hd.c0
    have p1 := hd.c1
    have z1 : w.heap.size + 1 < w1.heap.size := lt_of_block hd
    have z2 : w.heap.size + 1 < w1.heap.size + 1 := by omega
    clear hd hg
    go_wp2_with fail
    refine (days_any _ _ _).mono ?_
    rintro e w' ⟨rfl, rfl⟩
    go_wp2_with fail
    refine (set_any _ _ _).mono ?_
    rintro e w' ⟨rfl, rfl⟩
    have BF : Hid (Below w.heap.size w ((w1.alloc (.cells #[.int .i64 y, .bool true] 25)).alloc (.cells #[.int .i64 y, .bool true] 25))) := (B1.out.alloc (by omega) _).alloc (by simp; omega) _
    clear p0 p1
    go_wp2_with fail
    refine (HC.out _ (HX.out.below BF.out)).mono ?_
    rintro e w3 ⟨rfl, hb3⟩
    have B3 : Hid (Below w.heap.size w w3) := BF.out.trans (hb3.mono BF.out.size)
    clear hb3
    go_wp2
    go_ret
    exact ⟨ret_bool (by simp), B3.out⟩

set_option maxRecDepth 100000 in
set_option maxHeartbeats 2000000 in
theorem cal_refused (F : Stop.Interp) (a : Option Addr) (n c : Nat) (zs : List Int) (x : Int) (b : Bool) (w : World) (h0 : 0 < n) (hc : ∀ V, Txt V a n zs → Calls Tryf.prog 10 #[.slice a n c] V fun e w' => e = .returned (.tuple #[.bool false, .int .i64 0]) ∧ Below V.heap.size V w') (hF : F.answers w.tape) (h : Txt w a n zs) (hn : n ≤ 1048576) (q1 : b = true → -25567 ≤ x ∧ x ≤ 84005) (q2 : b = false → (x != 0) = false)
    (dc : ∀ W db, F.answers W.tape → Txt W a n zs → DateAt W db x b → Calls Tryf.prog 7 #[.pointer (some ⟨db, 0, none⟩), .slice a n c] W fun e w' => Decoded false (x : Int) b db W w' e) :
    Calls Tryf.prog 3 #[.slice a n c, .int .i64 x, .bool b] w fun e w' => e = .returned (.bool true) ∧ Below w.heap.size w w' := by
  have HT : Hid (F.answers w.tape) := hF
  have HX : Hid (Txt w a n zs) := h
  have HA : Hid (∀ W db, F.answers W.tape → Txt W a n zs → DateAt W db x b → Calls Tryf.prog 7 #[.pointer (some ⟨db, 0, none⟩), .slice a n c] W fun e w' => Decoded false (x : Int) b db W w' e) := dc
  have BW : Hid (Below w.heap.size w ((w.alloc (.cells #[.int .i64 x, .bool b] 25)).alloc (.cells #[.int .i64 x, .bool b] 25))) := ((Below.refl _ _).alloc (Nat.le_refl _) _).alloc (by simp) _
  have HD : Hid (DateAt ((w.alloc (.cells #[.int .i64 x, .bool b] 25)).alloc (.cells #[.int .i64 x, .bool b] 25)) (w.heap.size + 1) x b) := date_two w x b
  have HC : Hid (∀ V, Txt V a n zs → Calls Tryf.prog 10 #[.slice a n c] V fun e w' => e = .returned (.tuple #[.bool false, .int .i64 0]) ∧ Below V.heap.size V w') := hc
  have g0 : ((n : Int) == 0) = false := by simp; omega
  clear hc
  clear hF h dc
  have i0 : (n : Int) ≤ 1048576 := by omega
  cases b with
  | true =>
    obtain ⟨q3, q4⟩ := q1 rfl
    clear q1 q2
    go_enter Tryf.func3, Tryf.ntmps3
    go_wp2_with (first | (go_at_call 5; refine (bytes5_yes _ _ _ _ _ _ hn).mono ?_; rintro e w' ⟨rfl, rfl⟩) | (go_at_call 6; refine (make_any _ _ _).mono ?_; rintro e w' ⟨rfl, rfl⟩))
    refine (HA.out _ _ (by exact HT.out) (HX.out.below BW.out) HD.out).mono ?_
    rintro e w1 ⟨r, rfl, ⟨t1, t2, t3, t4⟩, hd, hg⟩
    have B1 : Hid (Below w.heap.size w w1) := BW.out.grown hg BW.out.size (fun k hk => by cases hk; omega)
    have p0 := hd.c0
    have p1 := hd.c1
    have z1 : w.heap.size + 1 < w1.heap.size := lt_of_block hd
    have z2 : w.heap.size + 1 < w1.heap.size + 1 := by omega
    clear hd hg
    go_wp2_with fail
    refine (days_any _ _ _).mono ?_
    rintro e w' ⟨rfl, rfl⟩
    go_wp2_with fail
    refine (set_any _ _ _).mono ?_
    rintro e w' ⟨rfl, rfl⟩
    have BF : Hid (Below w.heap.size w ((w1.alloc (.cells #[.int .i64 x, .bool true] 25)).alloc (.cells #[.int .i64 x, .bool true] 25))) := (B1.out.alloc (by omega) _).alloc (by simp; omega) _
    clear p0 p1
    go_wp2_with fail
    refine (HC.out _ (HX.out.below BF.out)).mono ?_
    rintro e w3 ⟨rfl, hb3⟩
    have B3 : Hid (Below w.heap.size w w3) := BF.out.trans (hb3.mono BF.out.size)
    clear hb3
    go_wp2
    go_ret
    exact ⟨ret_bool (by simp), B3.out⟩
  | false =>
    have q3 := q2 rfl
    clear q1 q2
    go_enter Tryf.func3, Tryf.ntmps3
    go_wp2_with (first | (go_at_call 5; refine (bytes5_yes _ _ _ _ _ _ hn).mono ?_; rintro e w' ⟨rfl, rfl⟩) | (go_at_call 6; refine (make_any _ _ _).mono ?_; rintro e w' ⟨rfl, rfl⟩))
    refine (HA.out _ _ (by exact HT.out) (HX.out.below BW.out) HD.out).mono ?_
    rintro e w1 ⟨r, rfl, ⟨t1, t2, t3, t4⟩, hd, hg⟩
    have B1 : Hid (Below w.heap.size w w1) := BW.out.grown hg BW.out.size (fun k hk => by cases hk; omega)
    have p0 := hd.c0
    have p1 := hd.c1
    have z1 : w.heap.size + 1 < w1.heap.size := lt_of_block hd
    have z2 : w.heap.size + 1 < w1.heap.size + 1 := by omega
    clear hd hg
    go_wp2_with fail
    refine (days_any _ _ _).mono ?_
    rintro e w' ⟨rfl, rfl⟩
    go_wp2_with fail
    refine (set_any _ _ _).mono ?_
    rintro e w' ⟨rfl, rfl⟩
    have BF : Hid (Below w.heap.size w ((w1.alloc (.cells #[.int .i64 x, .bool false] 25)).alloc (.cells #[.int .i64 x, .bool false] 25))) := (B1.out.alloc (by omega) _).alloc (by simp; omega) _
    clear p0 p1
    go_wp2_with fail
    refine (HC.out _ (HX.out.below BF.out)).mono ?_
    rintro e w3 ⟨rfl, hb3⟩
    have B3 : Hid (Below w.heap.size w w3) := BF.out.trans (hb3.mono BF.out.size)
    clear hb3
    go_wp2
    go_ret
    exact ⟨ret_bool (by simp), B3.out⟩

set_option maxRecDepth 100000 in
set_option maxHeartbeats 1000000 in
theorem calendar (a0 : Option Addr) (n0 c0 : Nat) (z0 : List Int) (x : Int) (b : Bool) (F : Stop.Interp) (w : World) (hF : F.answers w.tape) (h0 : Txt w a0 n0 z0) (hx : (Lit.int .i64 x).wf = true) :
    Calls Tryf.prog 3 #[.slice a0 n0 c0, .int .i64 x, .bool b] w fun e w' => e = .returned (.bool true) ∧ Below w.heap.size w w' := by
  have bx := bounds_i64 hx
  clear hx
  by_cases g0 : 1048576 < n0
  · have m0 := h0.2.1
    clear h0 hF
    go_enter Tryf.func3, Tryf.ntmps3
    go_wp2_with (first | (go_at_call 5; refine (bytes5_no _ _ _ _ _ _ g0 m0).mono ?_; rintro e w' ⟨rfl, rfl⟩))
    go_ret
    exact ⟨rfl, Below.refl _ _⟩
  have hn : n0 ≤ 1048576 := by omega
  have i0 : (n0 : Int) ≤ 1048576 := by omega
  by_cases g1 : b = true ∧ x < -25567
  · obtain ⟨rfl, g2⟩ := g1
    clear h0 hF
    go_enter Tryf.func3, Tryf.ntmps3
    go_wp2_with (first | (go_at_call 5; refine (bytes5_yes _ _ _ _ _ _ hn).mono ?_; rintro e w' ⟨rfl, rfl⟩))
    go_ret
    exact ⟨rfl, Below.refl _ _⟩
  by_cases g2 : b = true ∧ 84005 < x
  · obtain ⟨rfl, g3⟩ := g2
    clear h0 hF g1
    have g4 : -25567 ≤ x := by omega
    go_enter Tryf.func3, Tryf.ntmps3
    go_wp2_with (first | (go_at_call 5; refine (bytes5_yes _ _ _ _ _ _ hn).mono ?_; rintro e w' ⟨rfl, rfl⟩))
    go_ret
    exact ⟨rfl, Below.refl _ _⟩
  by_cases g3 : b = false ∧ x ≠ 0
  · obtain ⟨rfl, g4⟩ := g3
    have g5 : (x != 0) = true := by simpa using g4
    clear h0 hF g1 g2 g4
    go_enter Tryf.func3, Tryf.ntmps3
    go_wp2_with (first | (go_at_call 5; refine (bytes5_yes _ _ _ _ _ _ hn).mono ?_; rintro e w' ⟨rfl, rfl⟩))
    go_ret
    exact ⟨rfl, Below.refl _ _⟩
  have q1 : b = true → -25567 ≤ x ∧ x ≤ 84005 := fun e => ⟨Int.not_lt.1 fun h => g1 ⟨e, h⟩, Int.not_lt.1 fun h => g2 ⟨e, h⟩⟩
  have q2 : b = false → (x != 0) = false := fun e => by
    have : ¬ x ≠ 0 := fun h => g3 ⟨e, h⟩
    simpa using this
  clear g1 g2 g3
  by_cases e0 : n0 = 0
  · refine cal_empty F a0 n0 c0 z0 x b w e0 hF h0 hn q1 q2 fun W db _ _ hd => ?_
    subst e0
    exact (un_empty db a0 c0 x b W hd).mono fun e w' ⟨h1, h2, h3⟩ => ⟨_, h1, nil_test, h2, h3⟩
  by_cases hv : ValidZ z0
  · refine cal_valid F a0 n0 c0 z0 x b w (dnum (yZ z0) (mZ z0) (dZ z0)) (by omega) (fun V t => ?_) hF h0 hn q1 q2 fun W db _ ht hd => ?_
    · exact (cal_any a0 n0 c0 z0 V t).mono fun e w' ⟨h1, _, h3⟩ => ⟨h1 hv, h3⟩
    · exact (un_yes db a0 n0 c0 z0 x b W hd ht (by omega) hv).mono fun e w' ⟨h1, h2, h3⟩ => ⟨_, h1, nil_test, h2, h3⟩
  · refine cal_refused F a0 n0 c0 z0 x b w (by omega) (fun V t => ?_) hF h0 hn q1 q2 fun W db hT ht hd => ?_
    · exact (cal_any a0 n0 c0 z0 V t).mono fun e w' ⟨_, h2, h3⟩ => ⟨h2 hv, h3⟩
    · exact (un_no F db a0 n0 c0 z0 x b W hT hd ht (by omega) hv).mono fun e w' ⟨v, h1, h2, h3⟩ => ⟨_, h1, err_test v, h2, h3⟩

end Go.Proofs.Qxb6630431aFmt.Dates
