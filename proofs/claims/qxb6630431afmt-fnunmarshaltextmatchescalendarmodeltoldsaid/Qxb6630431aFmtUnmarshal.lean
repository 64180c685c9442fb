/- The contract of UnmarshalText. -/
import Derived.Test.Qxb6630431aFmtText
namespace Go.Proofs.Qxb6630431aFmt.Dates
open Go.RowKit Go.Extern.Stop Go.Stop Go.Extern
set_option linter.unusedVariables false

/-- The slice at 'a' holds the n bytes 'zs'. -/
def Txt (w : World) (a : Option Addr) (n : Nat) (zs : List Int) : Prop :=
  zs.length = n ∧ n ≤ 9223372036854775807 ∧ (∀ k, k < n → ∃ b off, a = some ⟨b, off, none⟩ ∧ w.cell? ⟨b, off + k, none⟩ = some (.int .u8 (zs.getD k 0))) ∧ ∀ z ∈ zs, 0 ≤ z ∧ z ≤ 255

theorem add_mk (b off j : Nat) : (⟨b, off, none⟩ : Addr).add j = ⟨b, off + j, none⟩ := by
  unfold Addr.add
  split
  · simp_all
  · rfl

/-- Block g is a Date: its days, and whether it is set. -/
def DateAt (w : World) (g : Nat) (x : Int) (b : Bool) : Prop := w.heap[g]? = some (.cells #[.int .i64 x, .bool b] 25 (0, 0))

theorem DateAt.c0 {w : World} {g : Nat} {x : Int} {b : Bool} (h : DateAt w g x b) : w.cell? ⟨g, 0, none⟩ = some (.int .i64 x) := by rw [cell_of_row w g 0 _ 25 (0, 0) h]; rfl
theorem DateAt.c1 {w : World} {g : Nat} {x : Int} {b : Bool} (h : DateAt w g x b) : w.cell? ⟨g, 1, none⟩ = some (.bool b) := by rw [cell_of_row w g 1 _ 25 (0, 0) h]; rfl
theorem DateAt.free {w : World} {g : Nat} {x : Int} {b : Bool} (h : DateAt w g x b) (k : Nat) : w.frozen? ⟨g, k, none⟩ = false := frozen_of_row w g k _ 25 h

theorem date_set {w : World} {g : Nat} {x y : Int} {b c : Bool} (h : DateAt w g x b) : DateAt ((w.setCell ⟨g, 0, none⟩ (.int .i64 y)).setCell ⟨g, 1, none⟩ (.bool c)) g y c := by
  unfold DateAt at *
  have h1 := heap_setCell_same w g 0 _ 25 (.int .i64 y) h
  rw [heap_setCell_same _ g 1 _ 25 (.bool c) h1]
  simp

theorem grown_set {w : World} (g : Nat) (u v : Value) (i j : Nat) : w.grownBy ((w.setCell ⟨g, i, none⟩ u).setCell ⟨g, j, none⟩ v) (some g) := by
  refine ⟨rfl, rfl, rfl, by simp [World.setCell], fun k hk hne => ?_⟩
  have : k ≠ g := fun e => hne (by rw [e])
  rw [heap_setCell_other _ _ _ _ this, heap_setCell_other _ _ _ _ this]

theorem grown_below {w w1 : World} (h : Below w.heap.size w w1) (row : Option Nat) : w.grownBy w1 row := ⟨h.os, h.tape, h.output, h.size, fun k hk _ => h.block k hk⟩

theorem date_alloc {w : World} {g : Nat} {x : Int} {b : Bool} (h : DateAt w g x b) (o : Obj) : DateAt (w.alloc o) g x b := (Below.heap_alloc w o g (lt_of_block h)).trans h

theorem grown_drew {w w' : World} {row : Option Nat} (h : w.grownBy w' row) : w.grownBy w'.drew row := ⟨h.os, h.tape, h.output, h.size, h.block⟩

theorem cell_err (w : World) (o : Obj) (v : Value) : ((w.alloc o).alloc (.cells #[v] 20)).cell? ⟨w.heap.size + 1, 0, none⟩ = some v := by
  have h := heap_alloc_new (w.alloc o) (.cells #[v] 20)
  have e : (w.alloc o).heap.size = w.heap.size + 1 := by simp
  rw [e] at h
  exact cell_of_one h

theorem cell_old {a : Addr} {v : Value} (w : World) (o o' : Obj) (h : w.cell? a = some v) : ((w.alloc o).alloc o').cell? a = some v := by
  have b : Below w.heap.size w ((w.alloc o).alloc o') := ((Below.refl _ _).alloc (Nat.le_refl _) _).alloc (by simp) _
  exact (b.cell (World.block_lt_of_cell? w _ h)).trans h

theorem conv_txt (a : Option Addr) (n c : Nat) (zs : List Int) (w : World) (h : Txt w a n zs) (hn : 0 < n) : (convert 22 9 (.slice a n c)).run Tryf.prog w = .ok (.string (strOfNums zs)) w := by
  obtain ⟨b, off, rfl, _⟩ := h.2.2.1 0 hn
  refine run_convert_bytes_arg w 22 5 Tryf.underlying22 Tryf.underlying5 b off n c zs h.1 (fun i hi => ?_) 9 Tryf.underlying9
  obtain ⟨b', off', e, hc⟩ := h.2.2.1 i hi
  cases e
  exact hc

set_option maxHeartbeats 1000000 in
theorem un_empty (db : Nat) (a : Option Addr) (c : Nat) (x : Int) (b : Bool) (w : World) (hd : DateAt w db x b) :
    Calls Tryf.prog 7 #[.pointer (some ⟨db, 0, none⟩), .slice a 0 c] w fun e w' => e = .returned .nilIface ∧ DateAt w' db 0 false ∧ w.grownBy w' (some db) := by
  have c0 := hd.c0
  have c1 := hd.c1
  have f0 := hd.free 0
  have f1 := hd.free 1
  have HD : Hid (DateAt w db x b) := hd
  clear hd
  go_enter Tryf.func7, Tryf.ntmps7
  go_wp2
  go_ret
  exact ⟨rfl, date_set HD.out, grown_set _ _ _ _ _⟩

set_option maxHeartbeats 1000000 in
theorem un_yes (db : Nat) (a : Option Addr) (n c : Nat) (zs : List Int) (x : Int) (b : Bool) (w : World) (hd : DateAt w db x b) (ht : Txt w a n zs) (hn : 0 < n) (hv : ValidZ zs) :
    Calls Tryf.prog 7 #[.pointer (some ⟨db, 0, none⟩), .slice a n c] w fun e w' => e = .returned .nilIface ∧ DateAt w' db (dnum (yZ zs) (mZ zs) (dZ zs)) true ∧ w.grownBy w' (some db) := by
  have hcv := conv_txt a n c zs w ht hn
  have HP : Hid (Calls Tryf.prog 15 #[.string (strOfNums zs)] w fun e w' => e = .returned (.tuple #[.agg #[.int .i64 (dnum (yZ zs) (mZ zs) (dZ zs)), .bool true], .nilIface]) ∧ Below w.heap.size w w') := parse_yes zs w ht.2.2.2 hv
  have HD : Hid (DateAt w db x b) := hd
  have hn0 : ((n : Int) == 0) = false := by simp; omega
  clear hd ht hv
  obtain ⟨S, hS⟩ : ∃ S, S = strOfNums zs := ⟨_, rfl⟩
  obtain ⟨D, hD⟩ : ∃ D, D = dnum (yZ zs) (mZ zs) (dZ zs) := ⟨_, rfl⟩
  rw [← hS] at hcv HP
  rw [← hD] at HP ⊢
  clear hS hD
  go_enter Tryf.func7, Tryf.ntmps7
  go_wp2_with fail
  refine HP.out.mono ?_
  rintro e w1 ⟨rfl, hb⟩
  have hdb : db < w.heap.size := lt_of_block HD.out
  have hd1 : DateAt w1 db x b := (hb.block db hdb).trans HD.out
  have c0 := hd1.c0
  have c1 := hd1.c1
  have f0 := hd1.free 0
  have f1 := hd1.free 1
  have hz : db < w1.heap.size := lt_of_block hd1
  have HD1 : Hid (DateAt w1 db x b) := hd1
  clear hd1
  go_wp2
  go_ret
  exact ⟨rfl, date_alloc (date_set HD1.out) _, ((grown_below hb _).trans (grown_set _ _ _ _ _)).trans (World.grownBy_alloc _ _ _)⟩

set_option maxHeartbeats 1000000 in
theorem un_no (F : Stop.Interp) (db : Nat) (a : Option Addr) (n c : Nat) (zs : List Int) (x : Int) (b : Bool) (w : World) (hF : F.answers w.tape) (hd : DateAt w db x b) (ht : Txt w a n zs) (hn : 0 < n) (hv : ¬ ValidZ zs) :
    Calls Tryf.prog 7 #[.pointer (some ⟨db, 0, none⟩), .slice a n c] w fun e w' => ∃ v, e = .returned (.iface 51 v) ∧ DateAt w' db x b ∧ w.grownBy w' (some db) := by
  have hcv := conv_txt a n c zs w ht hn
  have HP : Hid (Calls Tryf.prog 15 #[.string (strOfNums zs)] w fun e w' => Refused w.heap.size w w' e) := parse_no F zs w hF ht.2.2.2 hv
  have HT : Hid (F.answers w.tape) := hF
  have HD : Hid (DateAt w db x b) := hd
  have hn0 : ((n : Int) == 0) = false := by simp; omega
  clear hd ht hv hF
  obtain ⟨S, hS⟩ : ∃ S, S = strOfNums zs := ⟨_, rfl⟩
  rw [← hS] at hcv HP
  clear hS
  go_enter Tryf.func7, Tryf.ntmps7
  go_wp2_with fail
  refine HP.out.mono ?_
  rintro e w1 ⟨g, T, rfl, hT, hg, hb⟩
  have hdb : db < w.heap.size := lt_of_block HD.out
  have HD1 : Hid (DateAt w1 db x b) := (hb.block db hdb).trans HD.out
  have HT1 : Hid (F.answers w1.tape) := by show F.answers w1.tape; rw [hb.tape]; exact HT.out
  have hgl : g < w1.heap.size := World.block_lt_of_cell? w1 _ hT
  go_wp2_with fail
  refine (errorfB F ⟨g, 0, none⟩ T (w1.heap.size + 1) _ (by exact HT1.out) (cell_err w1 _ _) (cell_old w1 _ _ hT)).mono ?_
  rintro e w' ⟨T2, rfl, rfl⟩
  go_wp2
  go_ret
  exact ⟨_, rfl, date_alloc (date_alloc (date_alloc HD1.out _) _) _, grown_drew ((((grown_below hb _).trans (World.grownBy_alloc _ _ _)).trans (World.grownBy_alloc _ _ _)).trans (World.grownBy_alloc _ _ _))⟩

end Go.Proofs.Qxb6630431aFmt.Dates
