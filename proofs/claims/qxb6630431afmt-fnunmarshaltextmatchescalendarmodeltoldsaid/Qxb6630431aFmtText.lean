/- A text of bytes as numbers, and the string that Go makes of it. -/
import Derived.Test.Qxb6630431aFmtFields
import Derived.Test.Qxb6630431aFmtParse
import Derived.Laws.BytesArg
import Derived.Lib.Strings
namespace Go.Proofs.Qxb6630431aFmt.Dates
open Go.RowKit Go.Extern.Stop Go.Stop Go.Extern
set_option linter.unusedVariables false

def okD (z : Int) : Prop := 48 ≤ z ∧ z ≤ 57
def FormZ (zs : List Int) : Prop :=
  zs.length = 10 ∧ zs.getD 4 0 = 45 ∧ zs.getD 7 0 = 45 ∧ (okD (zs.getD 0 0) ∧ okD (zs.getD 1 0) ∧ okD (zs.getD 2 0) ∧ okD (zs.getD 3 0)) ∧ (okD (zs.getD 5 0) ∧ okD (zs.getD 6 0)) ∧ (okD (zs.getD 8 0) ∧ okD (zs.getD 9 0))
def yZ (zs : List Int) : Int := (zs.getD 0 0 - 48) * 1000 + (zs.getD 1 0 - 48) * 100 + (zs.getD 2 0 - 48) * 10 + (zs.getD 3 0 - 48)
def mZ (zs : List Int) : Int := (zs.getD 5 0 - 48) * 10 + (zs.getD 6 0 - 48)
def dZ (zs : List Int) : Int := (zs.getD 8 0 - 48) * 10 + (zs.getD 9 0 - 48)
def ValidZ (zs : List Int) : Prop := FormZ zs ∧ 1900 ≤ yZ zs ∧ yZ zs ≤ 2199 ∧ 1 ≤ mZ zs ∧ mZ zs ≤ 12 ∧ 1 ≤ dZ zs ∧ dZ zs ≤ dim (yZ zs) (mZ zs)

theorem byte_back {z : Int} (h : 0 ≤ z ∧ z ≤ 255) : ((UInt8.ofNat z.toNat).toNat : Int) = z := by
  rw [UInt8.toNat_ofNat']; omega

theorem ten {zs : List Int} (h : zs.length = 10) : ∃ a b c d e f g i j k, zs = [a, b, c, d, e, f, g, i, j, k] := by
  match zs, h with
  | [a, b, c, d, e, f, g, i, j, k], _ => exact ⟨a, b, c, d, e, f, g, i, j, k, rfl⟩

theorem bt_nums (zs : List Int) (hz : ∀ z ∈ zs, 0 ≤ z ∧ z ≤ 255) (i : Nat) : bt (strOfNums zs) i = zs.getD i 0 := by
  unfold bt
  rw [strOfNums_data, List.getD_eq_getElem?_getD, List.getD_eq_getElem?_getD, List.getElem?_map]
  rcases Nat.lt_or_ge i zs.length with h | h
  · rw [List.getElem?_eq_getElem h]
    simp only [Option.map_some, Option.getD_some]
    exact byte_back (hz _ (List.getElem_mem h))
  · rw [List.getElem?_eq_none h]; rfl

theorem ext_list (s : ByteArray) (a b : Nat) : (s.extract a b).data.toList = (s.data.toList.drop a).take (b - a) := Lib.extract_data s a b

theorem bt_ext (s : ByteArray) (a b k : Nat) (h : a + k < b) : bt (s.extract a b) k = bt s (a + k) := by
  unfold bt
  rw [ext_list, List.getD_eq_getElem?_getD, List.getD_eq_getElem?_getD, List.getElem?_take, if_pos (by omega), List.getElem?_drop]

theorem digs_iff (t : ByteArray) : digs t = true ↔ (0 < t.size ∧ ∀ k, k < t.size → 48 ≤ bt t k ∧ bt t k ≤ 57) := by unfold digs; simp

theorem form_iff (zs : List Int) (hz : ∀ z ∈ zs, 0 ≤ z ∧ z ≤ 255) : Form (strOfNums zs) ↔ FormZ zs := by
  have hb := bt_nums zs hz
  unfold Form FormZ okD
  rw [strOfNums_size]
  constructor
  · rintro ⟨h, h4, h7, d1, d2, d3⟩
    have hs : (strOfNums zs).size = 10 := by rw [strOfNums_size]; exact h
    rw [hb] at h4 h7
    have e1 := (digs_iff _).1 d1
    have e2 := (digs_iff _).1 d2
    have e3 := (digs_iff _).1 d3
    rw [ext_size _ 0 4 hs (by omega)] at e1
    rw [ext_size _ 5 7 hs (by omega)] at e2
    rw [ext_size _ 8 _ hs (by omega), h] at e3
    refine ⟨h, h4, h7, ⟨?_, ?_, ?_, ?_⟩, ⟨?_, ?_⟩, ⟨?_, ?_⟩⟩
    · have := e1.2 0 (by omega); rwa [bt_ext _ 0 4 0 (by omega), hb] at this
    · have := e1.2 1 (by omega); rwa [bt_ext _ 0 4 1 (by omega), hb] at this
    · have := e1.2 2 (by omega); rwa [bt_ext _ 0 4 2 (by omega), hb] at this
    · have := e1.2 3 (by omega); rwa [bt_ext _ 0 4 3 (by omega), hb] at this
    · have := e2.2 0 (by omega); rwa [bt_ext _ 5 7 0 (by omega), hb] at this
    · have := e2.2 1 (by omega); rwa [bt_ext _ 5 7 1 (by omega), hb] at this
    · have := e3.2 0 (by omega); rwa [bt_ext _ 8 _ 0 (by omega), hb] at this
    · have := e3.2 1 (by omega); rwa [bt_ext _ 8 _ 1 (by omega), hb] at this
  · rintro ⟨h, h4, h7, ⟨a0, a1, a2, a3⟩, ⟨a5, a6⟩, ⟨a8, a9⟩⟩
    have hs : (strOfNums zs).size = 10 := by rw [strOfNums_size]; exact h
    refine ⟨h, by rw [hb]; exact h4, by rw [hb]; exact h7, (digs_iff _).2 ?_, (digs_iff _).2 ?_, (digs_iff _).2 ?_⟩
    · rw [ext_size _ 0 4 hs (by omega)]
      refine ⟨by omega, fun k hk => ?_⟩
      rw [bt_ext _ 0 4 k (by omega), hb]
      rcases (show k = 0 ∨ k = 1 ∨ k = 2 ∨ k = 3 from by omega) with rfl | rfl | rfl | rfl <;> assumption
    · rw [ext_size _ 5 7 hs (by omega)]
      refine ⟨by omega, fun k hk => ?_⟩
      rw [bt_ext _ 5 7 k (by omega), hb]
      rcases (show k = 0 ∨ k = 1 from by omega) with rfl | rfl <;> assumption
    · rw [ext_size _ 8 _ hs (by omega), h]
      refine ⟨by omega, fun k hk => ?_⟩
      rw [bt_ext _ 8 _ k (by omega), hb]
      rcases (show k = 0 ∨ k = 1 from by omega) with rfl | rfl <;> assumption

theorem vals (zs : List Int) (h : FormZ zs) :
    val ((strOfNums zs).extract 0 4).data.toList = yZ zs ∧ val ((strOfNums zs).extract 5 7).data.toList = mZ zs ∧ val ((strOfNums zs).extract 8 zs.length).data.toList = dZ zs := by
  obtain ⟨hl, _, _, ⟨a0, a1, a2, a3⟩, ⟨a5, a6⟩, ⟨a8, a9⟩⟩ := h
  obtain ⟨a, b, c, d, e, f, g, i, j, k, rfl⟩ := ten hl
  simp only [ext_list, strOfNums_data]
  simp only [List.getD_eq_getElem?_getD, List.getElem?_cons_zero, List.getElem?_cons_succ, Option.getD_some] at a0 a1 a2 a3 a5 a6 a8 a9
  refine ⟨?_, ?_, ?_⟩
  · unfold okD at *; simp [val, yZ]; omega
  · unfold okD at *; simp [val, mZ]; omega
  · unfold okD at *; simp [val, dZ]; omega

theorem dim_bd (y m : Int) : 28 ≤ dim y m ∧ dim y m ≤ 31 := by unfold dim; split; split <;> omega; split <;> omega

theorem z_bd {zs : List Int} (h : FormZ zs) : (0 ≤ yZ zs ∧ yZ zs ≤ 1000000) ∧ (0 ≤ mZ zs ∧ mZ zs ≤ 1000000) ∧ (0 ≤ dZ zs ∧ dZ zs ≤ 1000000) := by
  obtain ⟨hl, _, _, ⟨a0, a1, a2, a3⟩, ⟨a5, a6⟩, ⟨a8, a9⟩⟩ := h
  unfold okD at *
  unfold yZ mZ dZ
  omega

/-- ParseDate of the string of a text. -/
theorem parse_yes (zs : List Int) (w : World) (hz : ∀ z ∈ zs, 0 ≤ z ∧ z ≤ 255) (h : ValidZ zs) :
    Calls Tryf.prog 15 #[.string (strOfNums zs)] w fun e w' => e = .returned (.tuple #[.agg #[.int .i64 (dnum (yZ zs) (mZ zs) (dZ zs)), .bool true], .nilIface]) ∧ Below w.heap.size w w' := by
  obtain ⟨hf, h1, h2, m1, m2, d1, d2⟩ := h
  obtain ⟨f1, f2, f3, f4, f5, f6⟩ := (form_iff zs hz).2 hf
  obtain ⟨v1, v2, v3⟩ := vals zs hf
  refine parse_core_yes (strOfNums zs) (yZ zs) (mZ zs) (dZ zs) w (fun W => ?_) h1 h2 m1 m2 d1 d2 (dim_bd _ _).2
  have := fields_yes (strOfNums zs) W f1 f2 f3 f4 f5 f6
  rw [strOfNums_size, v1, v2, v3] at this
  exact this

theorem parse_no (F : Stop.Interp) (zs : List Int) (w : World) (hF : F.answers w.tape) (hz : ∀ z ∈ zs, 0 ≤ z ∧ z ≤ 255) (h : ¬ ValidZ zs) :
    Calls Tryf.prog 15 #[.string (strOfNums zs)] w fun e w' => Refused w.heap.size w w' e := by
  by_cases hf : FormZ zs
  · obtain ⟨f1, f2, f3, f4, f5, f6⟩ := (form_iff zs hz).2 hf
    obtain ⟨v1, v2, v3⟩ := vals zs hf
    obtain ⟨b1, b2, b3⟩ := z_bd hf
    refine parse_core_no F (strOfNums zs) (yZ zs) (mZ zs) (dZ zs) true w hF (fun W => ?_) b1 b2 b3 ?_
    · have := fields_yes (strOfNums zs) W f1 f2 f3 f4 f5 f6
      rw [strOfNums_size, v1, v2, v3] at this
      exact this
    · by_cases g1 : 1900 ≤ yZ zs ∧ yZ zs ≤ 2199 ∧ 1 ≤ mZ zs ∧ mZ zs ≤ 12 ∧ 1 ≤ dZ zs ∧ dZ zs ≤ dim (yZ zs) (mZ zs)
      · exact absurd ⟨hf, g1⟩ h
      · omega
  · refine parse_core_no F (strOfNums zs) 0 0 0 false w hF (fun W => ?_) (by omega) (by omega) (by omega) (.inl rfl)
    exact (fields_no (strOfNums zs) W (fun h2 => hf ((form_iff zs hz).1 h2))).mono fun e w' ⟨h1, h2⟩ => ⟨h1, 0, h2.symm⟩

end Go.Proofs.Qxb6630431aFmt.Dates
