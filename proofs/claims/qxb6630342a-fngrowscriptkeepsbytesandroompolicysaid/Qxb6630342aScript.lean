/- The walk of FnGrowScriptKeepsBytesAndRoomPolicy. -/
import Derived.Test.Qxb6630342aInv
import Derived.Deep.DeepCutAuto
namespace Go.Proofs.Qxb6630342a.Grow
open Go.RowKit
set_option linter.unusedVariables false

theorem info3 : (Try.prog.info? 3).map (fun i => (i.zero, i.size, i.bytes)) = some (some (.int .i64 0), 1, 8) := by kernel_rfl

theorem idx_at23 (a : Option Addr) (n c k b off : Nat) (ha : a = some ⟨b, off, none⟩) (hk : k < n) (w : World) :
    (Instr.indexAt 23 (.slice a n c) (.int .i64 (k : Int))).run Try.prog w = .ok (.pointer (some ⟨b, off + k, none⟩)) w := by
  obtain ⟨i, hi, hz, hsz, hb⟩ := info_parts info3
  subst ha
  rw [run_indexAt_slice w 23 _ n c .i64 _ (by kernel_rfl)]
  rw [if_pos ⟨by omega, by omega⟩]
  have he : Try.prog.elem 23 = 3 := by kernel_rfl
  rw [he]
  simp [sizeOf, typeInfo, hi, hsz, add_mk, Result.andThen]

theorem bytes2_yes (a0 a1 : Option Addr) (n c n1 c1 : Nat) (l : Int) (w : World) (hn : n + n1 ≤ 1048576) :
    Calls Try.prog 5 #[.slice a0 n c, .slice a1 n1 c1, .int .i64 l] w fun e w' => e = .returned (.bool true) ∧ w = w' := by
  have h : (n : Int) + (n1 : Int) ≤ 1048576 := by omega
  have h1 : (n : Int) ≤ 1048576 := by omega
  have h2 : (n1 : Int) ≤ 1048576 := by omega
  go_enter Try.func5, Try.ntmps5
  go_wp2
  go_ret
  exact ⟨rfl, rfl⟩

theorem clone_any (a0 : Option Addr) (n c : Nat) (zs : List Int) (w : World) (hz : zs.length = n) (hnc : n ≤ c) (hc : c ≤ 1048576) (ha : a0 = none → c = 0) (hs : Src w a0 zs) :
    Calls Try.prog 6 #[.slice a0 n c] w fun e w' => ∃ ao, e = .returned (.slice ao n c) ∧ w'.ownsRow w.heap.size 5 1 (.slice ao n c) n (zs.map (Value.int .u8)) ∧ Below w.heap.size w w' := by
  cases a0 with
  | none =>
    obtain rfl := ha rfl
    obtain rfl : n = 0 := by omega
    obtain rfl := List.eq_nil_of_length_eq_zero hz
    exact (clone_nil w).mono fun e w' ⟨h1, h2⟩ => ⟨none, h1, World.ownsRow_nil _ _ _ _, h2 ▸ Below.refl _ _⟩
  | some x => exact (clone_some x n c zs w hz hnc hc hs).mono fun e w' ⟨h1, h2, h3⟩ => ⟨_, h1, h2, h3⟩

/-- The steps that were read so far, as natural numbers. -/
def Steps (ss : List Int) (k t n0 l : Nat) (ms : List Nat) : Prop :=
  ms.length = k ∧ (∀ j, j < k → ss.getD j 0 = (ms.getD j 0 : Int)) ∧ t = n0 + ms.sum ∧ t ≤ l

theorem Steps.start (ss : List Int) (n0 l : Nat) (h : n0 ≤ l) : Steps ss 0 n0 n0 l [] := ⟨rfl, fun j hj => by omega, by simp, h⟩

theorem Steps.next {ss : List Int} {k t n0 l : Nat} {ms : List Nat} (h : Steps ss k t n0 l ms) (s : Nat) (hs : ss.getD k 0 = (s : Int)) (hl : t + s ≤ l) : Steps ss (k + 1) (t + s) n0 l (ms ++ [s]) := by
  obtain ⟨h1, h2, h3, h4⟩ := h
  refine ⟨by simp [h1], fun j hj => ?_, by simp [h3]; omega, hl⟩
  by_cases e : j = k
  · subst e; rw [hs]; simp [List.getD_eq_getElem?_getD, ← h1]
  · rw [h2 j (by omega)]; simp [List.getD_eq_getElem?_getD, List.getElem?_append_left (show j < ms.length by omega)]

theorem sum_take_succ (ms : List Nat) (i : Nat) (h : i < ms.length) : (ms.take (i + 1)).sum = (ms.take i).sum + ms.getD i 0 := by
  rw [List.take_succ_eq_append_getElem h, List.sum_append, List.getD_eq_getElem?_getD, List.getElem?_eq_getElem h]
  simp

theorem sum_take_le (ms : List Nat) (i : Nat) : (ms.take i).sum ≤ ms.sum := by
  have h := congrArg List.sum (List.take_append_drop i ms)
  rw [List.sum_append] at h
  omega

theorem src_opt {w : World} {a0 : Option Addr} {n : Nat} {zs : List Int} (hz : zs.length = n) (hx : ∀ k, k < n → ∃ b off, a0 = some ⟨b, off, none⟩ ∧ w.cell? ⟨b, off + k, none⟩ = some (.int .u8 (zs.getD k 0))) : Src w a0 zs := by
  intro hp
  obtain ⟨b, off, rfl, _⟩ := hx 0 (by omega)
  refine src_of hz (fun k hk => ?_) hp
  obtain ⟨b', off', e, h⟩ := hx k hk
  cases e
  exact h

theorem inv_start {w w1 : World} {ao : Option Addr} {n c tt : Nat} {zs : List Int} (hown : w1.ownsRow w.heap.size 5 1 (.slice ao n c) n (zs.map (Value.int .u8))) (hb : Below w.heap.size w w1) (hz : zs.length = n) :
    Inv w.heap.size w1.heap.size tt w (w1.alloc (.cells (zerosL tt).toArray 5)) ao n c zs [] := by
  refine ⟨hz, Nat.zero_le _, hb.size, hb.alloc hb.size _, ?_, hown.alloc _, ?_⟩
  · rw [heap_alloc_new]; simp [wantL, zerosL]
  · intro e
    have := (hown.lt _ e).2
    omega

theorem inv_copy {B W T : Nat} {w0 w : World} {ao : Option Addr} {n c q : Nat} {zs : List Int} (h : Inv B W T w0 w ao n c zs (zs.take q)) (hz : zs.length = n) (hq : q < n) (hT : n ≤ T) :
    Inv B W T w0 (w.setCell ⟨W, q, none⟩ (.int .u8 (zs.getD q 0))) ao n c zs (zs.take (q + 1)) := by
  have hl : (zs.take q).length = q := by simp; omega
  have := h.store (by omega) (zs.getD q 0)
  rw [hl] at this
  rw [List.take_succ_eq_append_getElem (by omega)]
  rw [List.getD_eq_getElem?_getD, List.getElem?_eq_getElem (by omega)] at this
  rw [List.getD_eq_getElem?_getD, List.getElem?_eq_getElem (by omega)]
  exact this

/-- What the buffers made so far come to, beside the room of the last. -/
def Room (M C l : Nat) : Prop := (M ≤ 2 * C ∧ M ≤ l / 4) ∨ (l ≤ C ∧ M ≤ l + l / 4)

theorem step_at {ss : List Int} {k tt n l kk n1 N : Nat} {ms : List Nat} (h : Steps ss k tt n l ms) (hk : k = n1) (hN : N = n + (ms.take kk).sum) (hlk : kk < n1) :
    ∃ m, Hid (m = ms.getD kk 0) ∧ ss.getD kk 0 = (m : Int) ∧ N + m ≤ tt := by
  obtain ⟨h1, h2, h3, _⟩ := h
  refine ⟨ms.getD kk 0, rfl, h2 kk (by omega), ?_⟩
  have h5 := sum_take_succ ms kk (by omega)
  have h6 := sum_take_le ms (kk + 1)
  omega

def GSpec (N C m l G : Nat) : Prop := (N + m < l / 16 ∧ 2 * C < N + m ∧ G = N + m) ∨ (N + m < l / 16 ∧ N + m ≤ 2 * C ∧ G = 2 * C) ∨ (l / 16 ≤ N + m ∧ G = l)

theorem grow_spec (ao : Option Addr) (n c m l : Nat) (zs : List Int) (w : World) (hz : zs.length = n) (hl : l ≤ 65536) (hnl : n + m ≤ l) (h : c < n + m) (hs : Src w ao zs) :
    ∃ G, GSpec n c m l G ∧ Calls Try.prog 7 #[.slice ao n c, .int .i64 (m : Int), .int .i64 (l : Int)] w fun e w' => e = .returned (.slice (some ⟨w.heap.size, 0, none⟩) n G) ∧
      w'.ownsRow w.heap.size 5 1 (.slice (some ⟨w.heap.size, 0, none⟩) n G) n (zs.map (Value.int .u8)) ∧ Below w.heap.size w w' := by
  by_cases h1 : n + m < l / 16
  · by_cases h2 : 2 * c < n + m
    · exact ⟨n + m, .inl ⟨h1, h2, rfl⟩, grow_need ao n c m l zs w hz hl hnl h hs h1 h2⟩
    · exact ⟨2 * c, .inr (.inl ⟨h1, by omega, rfl⟩), grow_twice ao n c m l zs w hz hl hnl h hs h1 (by omega)⟩
  · exact ⟨l, .inr (.inr ⟨by omega, rfl⟩), grow_limit ao n c m l zs w hz hl hnl h hs (by omega)⟩

/-- Where the old text and the new one lie in two rows. -/
def Apart (w : World) (ac ag : Option Addr) : Prop :=
  ∃ g g' ca cb, ac = some ⟨g, 0, none⟩ ∧ ag = some ⟨g', 0, none⟩ ∧ g' ≠ g ∧ w.heap[g]? = some (.cells ca 5 (0, 0)) ∧ w.heap[g']? = some (.cells cb 5 (0, 0))

/-- Behind Grow. -/
def Grew (B W T : Nat) (w0 w : World) (ac ag : Option Addr) (N C m l G : Nat) (zs : List Int) : Prop :=
  Inv B W T w0 w ag N G zs zs ∧ ((N + m ≤ C ∧ ag = ac ∧ G = C) ∨ (C < N + m ∧ N + m ≤ l ∧ GSpec N C m l G ∧ (0 < N → Apart w ac ag)))

theorem Grew.fits {B W T : Nat} {w0 w : World} {ac ag : Option Addr} {N C m l G : Nat} {zs : List Int} (h : Grew B W T w0 w ac ag N C m l G zs) : (N : Int) + (m : Int) ≤ (G : Int) := by
  rcases h.2 with ⟨h1, _, h2⟩ | ⟨h1, h2, h3, _⟩
  · omega
  · rcases h3 with ⟨_, _, h4⟩ | ⟨_, _, h4⟩ | ⟨_, h4⟩ <;> omega

theorem grew_new {B W T : Nat} {w0 w w' : World} {ac : Option Addr} {N C m l G : Nat} {zs : List Int} (h : Inv B W T w0 w ac N C zs zs) (hs : GSpec N C m l G) (hc : C < N + m ∧ N + m ≤ l)
    (hown : w'.ownsRow w.heap.size 5 1 (.slice (some ⟨w.heap.size, 0, none⟩) N G) N (zs.map (Value.int .u8))) (hb : Below w.heap.size w w') :
    Grew B W T w0 w' ac (some ⟨w.heap.size, 0, none⟩) N C m l G zs := by
  refine ⟨h.grow hown hb, .inr ⟨hc.1, hc.2, hs, fun hp => ?_⟩⟩
  obtain ⟨g, rfl, _, _, ca, hca⟩ := h.addr (by have := h.caps; omega)
  obtain ⟨cb, hcb, _⟩ := own_block hown
  have hlt := lt_of_block hca
  exact ⟨g, w.heap.size, ca, cb, rfl, rfl, by omega, (hb.block g hlt).trans hca, hcb⟩

theorem Room.le {M C l : Nat} (h : Room M C l) : M ≤ l + l / 4 := by rcases h with h | h <;> omega

theorem Room.new {M C l N m G : Nat} (h : Room M C l) (h1 : C < N + m) (h2 : N + m ≤ l) (hs : GSpec N C m l G) : Room (M + G) G l := by
  rcases hs with ⟨s1, s2, s3⟩ | ⟨s1, s2, s3⟩ | ⟨s1, s3⟩ <;> rcases h with ⟨r1, r2⟩ | ⟨r1, r2⟩ <;> first | omega | (left; omega) | (right; omega)

theorem gspec_le {C l N m G : Nat} (h1 : C < N + m) (h2 : N + m ≤ l) (hs : GSpec N C m l G) : G ≤ l := by
  rcases hs with ⟨s1, s2, s3⟩ | ⟨s1, s2, s3⟩ | ⟨s1, s3⟩ <;> omega

theorem idx_zero (a : Option Addr) (n c g : Nat) (ha : a = some ⟨g, 0, none⟩) (hn : 0 < n) (w : World) :
    (Instr.indexAt 22 (.slice a n c) (.int .i64 0)).run Try.prog w = .ok (.pointer (some ⟨g, 0, none⟩)) w := idx_at a n c 0 g 0 0 rfl ha hn w

theorem Grew.small {B W T : Nat} {w0 w : World} {ac ag : Option Addr} {N C m l G : Nat} {zs : List Int} (h : Grew B W T w0 w ac ag N C m l G zs) (hC : C ≤ 1048576) (hl : l ≤ 1048576) : G ≤ 1048576 := by
  rcases h.2 with ⟨h1, _, h2⟩ | ⟨h1, h2, h3, _⟩
  · omega
  · have := gspec_le h1 h2 h3; omega

theorem inv_store {B W T : Nat} {w0 w : World} {ao : Option Addr} {n c : Nat} {zs : List Int} (h : Inv B W T w0 w ao n c zs zs) (hT : n < T) (v : Int) :
    Inv B W T w0 (w.setCell ⟨W, n, none⟩ (.int .u8 v)) ao n c zs (zs ++ [v]) := by
  have hn := h.1
  have := h.store (by omega) v
  rwa [hn] at this

theorem cell_one_new' (w : World) (v : Value) (t : TypeId) : (w.alloc (.cells #[v] t)).cell? ⟨w.heap.size, 0, none⟩ = some v := cell_of_one (heap_alloc_new w _)

theorem cell_set_new (w : World) (a : Addr) (u v : Value) (t : TypeId) : ((w.setCell a u).alloc (.cells #[v] t)).cell? ⟨w.heap.size, 0, none⟩ = some v := by
  have h := cell_one_new' (w.setCell a u) v t
  have e : (w.setCell a u).heap.size = w.heap.size := by simp [World.setCell]
  rwa [e] at h

theorem step_next {ss : List Int} {k tt n l kk n1 N m p : Nat} {ms : List Nat} (h : Steps ss k tt n l ms) (hk : k = n1) (hN : N = n + (ms.take kk).sum) (hm : m = ms.getD kk 0) (hp : p = m) (hlk : kk < n1) :
    N + p = n + (ms.take (kk + 1)).sum := by
  have h5 := sum_take_succ ms kk (by rw [h.1]; omega)
  omega

theorem step_end {ss : List Int} {k tt n l kk n1 N : Nat} {ms : List Nat} (h : Steps ss k tt n l ms) (hk : k = n1) (hN : N = n + (ms.take kk).sum) (hlk : n1 ≤ kk) : N = tt := by
  rw [List.take_of_length_le (by rw [h.1]; omega)] at hN
  rw [hN, h.2.2.1]

theorem ret_bool {a b : Bool} (h : a = b) : Ending.returned (.bool a) = .returned (.bool b) := by rw [h]

set_option maxRecDepth 100000 in
set_option maxHeartbeats 4000000 in
theorem script (a0 a1 : Option Addr) (n c n1 c1 l : Nat) (zs ss : List Int) (w : World) (hz : zs.length = n) (hnc : n ≤ c) (hc : c ≤ 1048576) (ha : a0 = none → c = 0) (hn1 : n1 ≤ 65536) (hcn : c + 8 * n1 ≤ 1048576)
    (hl : l ≤ 65536) (hnl : n ≤ l) (hx0 : ∀ k, k < n → ∃ b off, a0 = some ⟨b, off, none⟩ ∧ w.cell? ⟨b, off + k, none⟩ = some (.int .u8 (zs.getD k 0)))
    (hx1 : ∀ k, k < n1 → ∃ b off, a1 = some ⟨b, off, none⟩ ∧ w.cell? ⟨b, off + k, none⟩ = some (.int .i64 (ss.getD k 0))) (hss : ∀ k, -9223372036854775808 ≤ ss.getD k 0 ∧ ss.getD k 0 ≤ 9223372036854775807) :
    Calls Try.prog 3 #[.slice a0 n c, .slice a1 n1 c1, .int .i64 (l : Int)] w fun e w' => e = .returned (.bool true) ∧ Below w.heap.size w w' := by
  have X0 : Hid (∀ k, k < n → ∃ b off, a0 = some ⟨b, off, none⟩ ∧ w.cell? ⟨b, off + k, none⟩ = some (.int .u8 (zs.getD k 0))) := hx0
  have X1 : Hid (∀ k, k < n1 → ∃ b off, a1 = some ⟨b, off, none⟩ ∧ w.cell? ⟨b, off + k, none⟩ = some (.int .i64 (ss.getD k 0))) := hx1
  have XS : Hid (∀ k, -9223372036854775808 ≤ ss.getD k 0 ∧ ss.getD k 0 ≤ 9223372036854775807) := hss
  have XZ : Hid (zs.length = n) := hz
  have XA : Hid (a0 = none → c = 0) := ha
  clear hx0 hx1 hss hz ha
  have i1 : (c : Int) + 8 * (n1 : Int) ≤ 1048576 := by omega
  go_enter Try.func3, Try.ntmps3
  go_wp2_with (first | (go_at_call 5; refine (bytes2_yes _ _ _ _ _ _ _ _ (by omega)).mono ?_; rintro e w' ⟨rfl, rfl⟩))
  go_loop [7, 8] (fun t i => ∃ k tt : Nat, ∃ ms : List Nat, k ≤ n1 ∧ i = .int .i64 k ∧ t = .int .i64 tt ∧ Steps ss k tt n l ms) (fun _ i => n1 - (intOf i).toNat)
  case atStart => exact ⟨0, n, [], Nat.zero_le _, rfl, rfl, Steps.start ss n l hnl⟩
  case round =>
    obtain ⟨k, tt, ms, hk, rfl, rfl, hst⟩ := hrel
    have htl : tt ≤ l := hst.2.2.2
    have HST : Hid (Steps ss k tt n l ms) := hst
    clear hst
    by_cases hlt : k < n1
    · have j2 : (k : Int) < (n1 : Int) := by omega
      obtain ⟨b, off, hab, hcl⟩ := X1.out k hlt
      have hix := idx_at23 a1 n1 c1 k b off hab hlt
      obtain ⟨s, hs⟩ : ∃ s, s = ss.getD k 0 := ⟨_, rfl⟩
      have bs := XS.out k
      rw [← hs] at hcl bs
      have HS : Hid (s = ss.getD k 0) := hs
      clear hs hab
      by_cases g1 : s < 0
      · go_wp2
        go_ret
        exact ⟨rfl, Below.refl _ _⟩
      by_cases g2 : (l : Int) - (tt : Int) < s
      · go_wp2
        go_ret
        exact ⟨rfl, Below.refl _ _⟩
      · go_wp2
        go_round
        case rel => 
          obtain ⟨sn, rfl⟩ := Int.eq_ofNat_of_zero_le (a := s) (by omega)
          exact ⟨k + 1, tt + sn, ms ++ [sn], by omega, by go_num, by go_num, HST.out.next sn HS.out.symm (by omega)⟩
        case measure => simp [intOf]; omega
    · have j2 : (n1 : Int) ≤ (k : Int) := by omega
      have HK : Hid (k = n1) := by show k = n1; omega
      go_wp2_with fail
      refine (clone_any _ _ _ zs _ XZ.out hnc hc XA.out (src_opt XZ.out X0.out)).mono ?_
      rintro e w1 ⟨ao, rfl, hown, hb⟩
      have hmk := run_make5 tt tt (Nat.le_refl _) (by omega)
      have INV : Hid (Inv w.heap.size w1.heap.size tt w (w1.alloc (.cells (zerosL tt).toArray 5)) ao n c zs []) := inv_start hown hb XZ.out
      have htn : n ≤ tt := by have := HST.out.2.2.1; omega
      clear hown
      go_wp2_with fail
      go_loopw [12] (fun i wr => ∃ k : Nat, k ≤ n ∧ i = .int .i64 k ∧ Inv w.heap.size w1.heap.size tt w wr ao n c zs (zs.take k)) (fun i _ => n - (intOf i).toNat)
      case atStart => exact ⟨0, Nat.zero_le _, rfl, INV.out⟩
      case round =>
        clear INV
        obtain ⟨q, hq, rfl, hinv⟩ := hrel
        by_cases hlq : q < n
        · have j3 : (q : Int) < (n : Int) := by omega
          obtain ⟨b, off, hab, hcl⟩ := X0.out q hlq
          have hix := idx_at a0 n c q b off q rfl hab hlq
          have hcr : wr.cell? ⟨b, off + q, none⟩ = some (.int .u8 (zs.getD q 0)) := Below.old hinv.below hcl
          obtain ⟨v0, hv0⟩ := hinv.wantAny (k := q) (by omega)
          have hfr := hinv.free q
          have NXT : Hid (Inv w.heap.size w1.heap.size tt w (wr.setCell ⟨w1.heap.size, q, none⟩ (.int .u8 (zs.getD q 0))) ao n c zs (zs.take (q + 1))) := inv_copy hinv XZ.out hlq (by omega)
          clear hab hcl hinv
          go_wp2
          go_roundw
          case rel => exact ⟨q + 1, by omega, by go_num, NXT.out⟩
          case measure => simp [intOf]; omega
        · have j3 : (n : Int) ≤ (q : Int) := by omega
          have INV : Hid (Inv w.heap.size w1.heap.size tt w wr ao n c zs zs) := by
            have e : zs.take q = zs := List.take_of_length_le (by rw [XZ.out]; omega)
            rw [e] at hinv; exact hinv
          clear hinv
          go_wp2_with fail
          go_loopw [10, 13, 14] (fun cv mv i wr => ∃ (k N C M : Nat) (ao : Option Addr) (zs : List Int), k ≤ n1 ∧ i = .int .i64 k ∧ cv = .slice ao N C ∧ mv = .int .i64 M ∧ N = n + (ms.take k).sum ∧ C ≤ 1048576 ∧ Room M C l ∧ Inv w.heap.size w1.heap.size tt w wr ao N C zs zs) (fun _ _ i _ => n1 - (intOf i).toNat)
          case atStart => exact ⟨0, n, c, 0, ao, zs, Nat.zero_le _, rfl, rfl, rfl, by simp, hc, Or.inl ⟨Nat.zero_le _, Nat.zero_le _⟩, INV.out⟩
          case round =>
            clear INV
            obtain ⟨kk, N, C, M, ac, zc, hkk, rfl, rfl, rfl, hN, hC, hroom, hinv⟩ := hrel
            have HN : Hid (N = n + (ms.take kk).sum) := hN
            have HR : Hid (Room M C l) := hroom
            have INV : Hid (Inv w.heap.size w1.heap.size tt w wr ac N C zc zc) := hinv
            clear hN hroom hinv
            by_cases hlk : kk < n1
            · have j4 : (kk : Int) < (n1 : Int) := by omega
              obtain ⟨m, HM, hms, hNm⟩ := step_at HST.out HK.out HN.out hlk
              obtain ⟨b, off, hab, hcl⟩ := X1.out kk hlk
              have hix := idx_at23 a1 n1 c1 kk b off hab hlk
              have hcr : wr.cell? ⟨b, off + kk, none⟩ = some (.int .i64 (m : Int)) := by rw [← hms]; exact Below.old INV.out.below hcl
              have HMS : Hid (ss.getD kk 0 = (m : Int)) := hms
              clear hab hcl hms
              have j5 : (N : Int) + (m : Int) ≤ (tt : Int) := by omega
              go_upto_region 33 with fail
              go_cut [19] (fun r wx => ∃ (ag : Option Addr) (G : Nat), r = .slice ag N G ∧ Grew w.heap.size w1.heap.size tt w wx ac ag N C m l G zc)
              case first =>
                by_cases hr : N + m ≤ C
                · go_wp2_with (first | (go_at_call 7; refine (grow_room _ _ _ _ _ _ (by omega) (by omega) (by omega) (by omega)).mono ?_; rintro e w' ⟨rfl, rfl⟩))
                  go_meet
                  exact ⟨ac, C, rfl, INV.out, Or.inl ⟨hr, rfl, rfl⟩⟩
                · obtain ⟨G, hG, hgr⟩ := grow_spec ac N C m l zc wr INV.out.1 hl (by omega) (by omega) INV.out.src
                  have HG : Hid (Calls Try.prog 7 #[.slice ac N C, .int .i64 (m : Int), .int .i64 (l : Int)] wr fun e w' => e = .returned (.slice (some ⟨wr.heap.size, 0, none⟩) N G) ∧
                      w'.ownsRow wr.heap.size 5 1 (.slice (some ⟨wr.heap.size, 0, none⟩) N G) N (zc.map (Value.int .u8)) ∧ Below wr.heap.size wr w') := hgr
                  have HGS : Hid (GSpec N C m l G) := hG
                  clear hgr hG
                  go_wp2_with (first | (go_at_call 7; refine HG.out.mono ?_; rintro e w2 ⟨rfl, hown2, hb2⟩))
                  go_meet
                  exact ⟨_, G, rfl, grew_new INV.out HGS.out (by omega) hown2 hb2⟩
              case rest =>
                obtain ⟨ag, G, rfl, hgrew⟩ := hcut
                have hG : (N : Int) + (m : Int) ≤ (G : Int) := hgrew.fits
                have hGm : G ≤ 1048576 := hgrew.small hC (by omega)
                have HGR : Hid (Grew w.heap.size w1.heap.size tt w wc ac ag N C m l G zc) := hgrew
                clear hgrew INV
                go_upto_if 127 with fail
                go_cut [13] (fun mv wx => ∃ M' : Nat, mv = .int .i64 M' ∧ Room M' G l ∧ Inv w.heap.size w1.heap.size tt w wx ag N G zc zc)
                case first =>
                  have hne := neq_same
                  have hMl : M ≤ l + l / 4 := HR.out.le
                  rcases HGR.out.2 with ⟨hr1, hag, hGC⟩ | ⟨hr1, hr2, hsp, hap⟩
                  · have e1 : (N : Int) + (m : Int) ≤ (C : Int) := by omega
                    have e2 : ((G : Int) != (C : Int)) = false := by simp [hGC]
                    have RM : Hid (Room M G l) := by have := HR.out; rw [← hGC] at this; exact this
                    by_cases hN0 : N = 0
                    · have d1 : decide ((0 : Int) < (N : Int)) = false := by simp [hN0]
                      have d2 : decide (0 < N) = false := by simp [hN0]
                      clear hag hGC hN0
                      go_wp2_with fail
                      go_quiet (fail)
                      go_wp2
                      go_meet
                      exact ⟨M, rfl, RM.out, HGR.out.1.drewN _⟩
                    · have d1 : (0 : Int) < (N : Int) := by omega
                      have d2 : 0 < N := by omega
                      obtain ⟨g, hg, _⟩ := HGR.out.1.addr (by have := HGR.out.1.caps; omega)
                      have x1 := idx_zero ag N G g hg (by omega)
                      have x2 := idx_zero ac N C g (by rw [← hag]; exact hg) (by omega)
                      clear hag hGC hN0 hg
                      go_wp2_with fail
                      go_quiet (fail)
                      go_wp2
                      go_meet
                      exact ⟨M, rfl, RM.out, HGR.out.1.drewN _⟩
                  · have e1 : (C : Int) < (N : Int) + (m : Int) := by omega
                    have RM : Hid (Room (M + G) G l) := HR.out.new hr1 hr2 hsp
                    have hGl : G ≤ l := gspec_le hr1 hr2 hsp
                    have HSP : Hid (GSpec N C m l G) := hsp
                    clear hsp
                    by_cases hN0 : N = 0
                    · have d1 : decide ((0 : Int) < (N : Int)) = false := by simp [hN0]
                      have d2 : decide (0 < N) = false := by simp [hN0]
                      clear hap hN0
                      rcases HSP.out with ⟨s1, s2, s3⟩ | ⟨s1, s2, s3⟩ | ⟨s1, s3⟩
                      · have f1 : (N : Int) + (m : Int) < (l : Int) / 16 := by omega
                        have f2 : 2 * (C : Int) < (N : Int) + (m : Int) := by omega
                        have f3 : ((G : Int) != (N : Int) + (m : Int)) = false := by simp; omega
                        clear s3
                        go_wp2_with fail
                        go_quiet (fail)
                        go_wp2
                        go_meet
                        exact ⟨M + G, by go_num, RM.out, HGR.out.1.drewN _⟩
                      · have f1 : (N : Int) + (m : Int) < (l : Int) / 16 := by omega
                        have f2 : (N : Int) + (m : Int) ≤ 2 * (C : Int) := by omega
                        have f3 : ((G : Int) != 2 * (C : Int)) = false := by simp; omega
                        clear s3
                        go_wp2_with fail
                        go_quiet (fail)
                        go_wp2
                        go_meet
                        exact ⟨M + G, by go_num, RM.out, HGR.out.1.drewN _⟩
                      · have f1 : (l : Int) / 16 ≤ (N : Int) + (m : Int) := by omega
                        have f3 : ((G : Int) != (l : Int)) = false := by simp; omega
                        clear s3
                        go_wp2_with fail
                        go_quiet (fail)
                        go_wp2
                        go_meet
                        exact ⟨M + G, by go_num, RM.out, HGR.out.1.drewN _⟩
                    · have d1 : (0 : Int) < (N : Int) := by omega
                      have d2 : 0 < N := by omega
                      obtain ⟨g, g', ca, cb, hg, hg', hgg, hca, hcb⟩ := hap (by omega)
                      have x1 := idx_zero ag N G g' hg' (by omega)
                      have x2 := idx_zero ac N C g hg (by have := HGR.out.1.caps; omega)
                      have x3 : ∀ q, (binOp .eql 27 (.pointer (some ⟨g', 0, none⟩)) (.pointer (some ⟨g, 0, none⟩))).run Try.prog (wc.drewN q) = .ok (.bool false) (wc.drewN q) := fun q => eql_other hgg hcb hca
                      clear hap hN0 hg hg' hca hcb
                      rcases HSP.out with ⟨s1, s2, s3⟩ | ⟨s1, s2, s3⟩ | ⟨s1, s3⟩
                      · have f1 : (N : Int) + (m : Int) < (l : Int) / 16 := by omega
                        have f2 : 2 * (C : Int) < (N : Int) + (m : Int) := by omega
                        have f3 : ((G : Int) != (N : Int) + (m : Int)) = false := by simp; omega
                        clear s3
                        go_wp2_with fail
                        go_quiet (fail)
                        go_wp2
                        go_meet
                        exact ⟨M + G, by go_num, RM.out, HGR.out.1.drewN _⟩
                      · have f1 : (N : Int) + (m : Int) < (l : Int) / 16 := by omega
                        have f2 : (N : Int) + (m : Int) ≤ 2 * (C : Int) := by omega
                        have f3 : ((G : Int) != 2 * (C : Int)) = false := by simp; omega
                        clear s3
                        go_wp2_with fail
                        go_quiet (fail)
                        go_wp2
                        go_meet
                        exact ⟨M + G, by go_num, RM.out, HGR.out.1.drewN _⟩
                      · have f1 : (l : Int) / 16 ≤ (N : Int) + (m : Int) := by omega
                        have f3 : ((G : Int) != (l : Int)) = false := by simp; omega
                        clear s3
                        go_wp2_with fail
                        go_quiet (fail)
                        go_wp2
                        go_meet
                        exact ⟨M + G, by go_num, RM.out, HGR.out.1.drewN _⟩
                case rest =>
                  obtain ⟨M', rfl, hroom', hinv'⟩ := hcut
                  have HR' : Hid (Room M' G l) := hroom'
                  have INV : Hid (Inv w.heap.size w1.heap.size tt w wc ag N G zc zc) := hinv'
                  clear hroom' hinv' HGR HR
                  go_wp2_with fail
                  go_loopw [10, 21] (fun cv j wr => ∃ (q : Nat) (zq : List Int), q ≤ m ∧ j = .int .i64 q ∧ cv = .slice ag (N + q) G ∧ Inv w.heap.size w1.heap.size tt w wr ag (N + q) G zq zq) (fun _ j _ => m - (intOf j).toNat)
                  case atStart => exact ⟨0, zc, Nat.zero_le _, rfl, rfl, INV.out⟩
                  case round =>
                    clear INV
                    obtain ⟨p, zp, hp, rfl, rfl, hinv⟩ := hrel
                    by_cases hpm : p < m
                    · have f1 : (p : Int) < (m : Int) := by omega
                      obtain ⟨v0, hv0⟩ := hinv.wantAny (k := N + p) (by omega)
                      have hfr := hinv.free (N + p)
                      have INV : Hid (Inv w.heap.size w1.heap.size tt w wr ag (N + p) G zp zp) := hinv
                      clear hinv
                      have IST : Hid (Inv w.heap.size w1.heap.size tt w (wr.setCell ⟨w1.heap.size, N + p, none⟩ (.int .u8 (((N : Int) + 7 * (p : Int) + 1) % 256))) ag (N + p) G zp (zp ++ [((N : Int) + 7 * (p : Int) + 1) % 256])) := inv_store INV.out (by omega) _
                      have HCN : Hid (((wr.setCell ⟨w1.heap.size, N + p, none⟩ (.int .u8 (((N : Int) + 7 * (p : Int) + 1) % 256))).alloc (.cells #[.int .u8 (((N : Int) + 7 * (p : Int) + 1) % 256)] 5)).cell? ⟨wr.heap.size, 0, none⟩ = some (.int .u8 (((N : Int) + 7 * (p : Int) + 1) % 256))) := cell_set_new _ _ _ _ _
                      clear INV
                      go_wp2_with (at_builtin; refine wpList_append_within _ rfl (.tmp 187) (.tmp 189) rfl w.heap.size ag (N + p) G (zp.map (Value.int .u8)) rfl (IST.out.2.2.2.2.2.1.alloc _) (by omega) ⟨wr.heap.size, 0, none⟩ (.int .u8 (((N : Int) + 7 * (p : Int) + 1) % 256)) rfl HCN.out rfl ?_; intro w2 hown2 hgrow2)
                      have IAP : Hid (Inv w.heap.size w1.heap.size tt w w2 ag (N + p + 1) G (zp ++ [((N : Int) + 7 * (p : Int) + 1) % 256]) (zp ++ [((N : Int) + 7 * (p : Int) + 1) % 256])) := IST.out.append _ hown2 hgrow2 (by omega)
                      clear hown2 hgrow2 IST
                      go_wp2
                      go_roundw
                      case rel => exact ⟨p + 1, _, by omega, by go_num, rfl, IAP.out⟩
                      case measure => simp [intOf]; omega
                    · have f1 : (m : Int) ≤ (p : Int) := by omega
                      have INV : Hid (Inv w.heap.size w1.heap.size tt w wr ag (N + p) G zp zp) := hinv
                      clear hinv
                      go_wp2
                      go_roundw
                      case rel => exact ⟨kk + 1, N + p, G, M', ag, zp, by omega, by go_num, rfl, rfl, step_next HST.out HK.out HN.out HM.out (by omega) hlk, hGm, HR'.out, INV.out⟩
                      case measure => simp [intOf]; omega
            · have j4 : (n1 : Int) ≤ (kk : Int) := by omega
              have hNt : N = tt := step_end HST.out HK.out HN.out (by omega)
              have hMl : M ≤ l + l / 4 := HR.out.le
              have hb1 : ((N : Int) != (tt : Int)) = false := by simp [hNt]
              have HNT : Hid (N = tt) := hNt
              clear hNt
              go_wp2_with fail
              go_loopw [23] (fun i wr => ∃ q : Nat, q ≤ tt ∧ i = .int .i64 q ∧ Inv w.heap.size w1.heap.size tt w wr ac N C zc zc) (fun i _ => tt - (intOf i).toNat)
              case atStart => exact ⟨0, Nat.zero_le _, rfl, INV.out⟩
              case round =>
                clear INV
                obtain ⟨p, hp, rfl, hinv⟩ := hrel
                by_cases hpt : p < tt
                · have f1 : (p : Int) < (tt : Int) := by omega
                  obtain ⟨g, hg, hcg⟩ := hinv.cur (k := p) (by rw [HNT.out]; exact hpt)
                  have hcw := hinv.want (k := p) (by rw [hinv.1, HNT.out]; exact hpt)
                  have x1 : ∀ wx, (Instr.indexAt 22 (.slice ac N C) (.int .i64 (p : Int))).run Try.prog wx = .ok (.pointer (some ⟨g, p, none⟩)) wx := fun wx => by
                    have := idx_at ac N C p g 0 p rfl hg (by rw [HNT.out]; exact hpt) wx
                    rwa [Nat.zero_add] at this
                  have INV : Hid (Inv w.heap.size w1.heap.size tt w wr ac N C zc zc) := hinv
                  clear hg hinv
                  go_wp2_with fail
                  go_quiet (fail)
                  go_wp2
                  go_roundw
                  case rel => exact ⟨p + 1, by omega, by go_num, INV.out.drewN _⟩
                  case measure => simp [intOf]; omega
                · have f1 : (tt : Int) ≤ (p : Int) := by omega
                  have INV : Hid (Inv w.heap.size w1.heap.size tt w wr ac N C zc zc) := hinv
                  clear hinv
                  go_wp2
                  go_ret
                  exact ⟨rfl, INV.out.below⟩

end Go.Proofs.Qxb6630342a.Grow
