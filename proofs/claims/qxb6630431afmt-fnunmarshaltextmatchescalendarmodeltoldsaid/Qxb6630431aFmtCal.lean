/- The plain calendar: no Go in sight. -/
import Derived.Test.Qxb6630431aFmtText
namespace Go.Proofs.Qxb6630431aFmt.Dates
set_option linter.unusedVariables false

def G (y : Int) : Int := 365 * y + y / 4 - y / 100 + y / 400
def leapI (y : Int) : Int := if leapB y = true then 1 else 0
/-- The first of January of year y, in days from 1970-01-01. -/
def J (y : Int) : Int := G (y - 1) + 306 - 719468
/-- The days of year y ahead of month m. -/
def cum (y m : Int) : Int := if m ≤ 2 then 31 * (m - 1) else 59 + leapI y + (153 * (m - 3) + 2) / 5

theorem dn_eq (y f d : Int) : dn y f d = G y + (153 * f + 2) / 5 - 719468 + d - 1 := by unfold dn G; omega

theorem leap_step (y : Int) : G y = G (y - 1) + 365 + leapI y := by
  unfold leapI
  by_cases h : y % 4 = 0 ∧ (y % 100 ≠ 0 ∨ y % 400 = 0)
  · rw [leap_t h, if_pos rfl]; unfold G; omega
  · rw [leap_f h, if_neg (by simp)]; unfold G; omega

theorem leapI_bd (y : Int) : 0 ≤ leapI y ∧ leapI y ≤ 1 := by unfold leapI; split <;> omega

theorem J_succ (y : Int) : J (y + 1) = J y + 365 + leapI y := by
  have h := leap_step y
  have e : y + 1 - 1 = y := by omega
  unfold J; rw [e]; omega

theorem J_mono (a b : Int) (h : a ≤ b) : J a ≤ J b := by unfold J G; omega
theorem J_first : J 1900 = -25567 := by decide
theorem J_last : J 2200 = 84006 := by decide

theorem dnum_eq (y m d : Int) (m1 : 1 ≤ m) (m2 : m ≤ 12) : dnum y m d = J y + cum y m + d - 1 := by
  have h := leap_step y
  unfold dnum cum J
  by_cases c : m ≤ 2
  · rw [if_pos (by omega), if_pos c, dn_eq]; omega
  · rw [if_neg (by omega), if_neg c, dn_eq]; omega

theorem cum_succ (y m : Int) (m1 : 1 ≤ m) (m2 : m ≤ 12) : cum y m + dim y m = cum y (m + 1) := by
  have hb := leapI_bd y
  rcases month_cases m1 m2 with rfl | rfl | rfl | rfl | rfl | rfl | rfl | rfl | rfl | rfl | rfl | rfl
  case inr.inl => unfold cum dim leapI; cases leapB y <;> simp
  all_goals simp [cum, dim]
  all_goals omega

theorem cum_mono (y a b : Int) (h1 : 1 ≤ a) (h : a ≤ b) (h2 : b ≤ 13) : cum y a ≤ cum y b := by
  have hb := leapI_bd y
  unfold cum
  split <;> split <;> omega

theorem cum_last (y : Int) : cum y 13 = 365 + leapI y := by simp [cum]; omega
theorem cum_first (y : Int) : cum y 1 = 0 := by simp [cum]

/-- A day of the calendar, from 1900 to 2199. -/
def Day (y m d : Int) : Prop := 1900 ≤ y ∧ y ≤ 2199 ∧ 1 ≤ m ∧ m ≤ 12 ∧ 1 ≤ d ∧ d ≤ dim y m

theorem day_in {y m d : Int} (h : Day y m d) : J y ≤ dnum y m d ∧ dnum y m d < J (y + 1) := by
  obtain ⟨y1, y2, m1, m2, d1, d2⟩ := h
  rw [dnum_eq y m d m1 m2, J_succ]
  have h1 := cum_succ y m m1 m2
  have h2 := cum_mono y (m + 1) 13 (by omega) (by omega) (by omega)
  have h3 := cum_mono y 1 m (by omega) (by omega) (by omega)
  rw [cum_last] at h2
  rw [cum_first] at h3
  omega

theorem day_bd {y m d : Int} (h : Day y m d) : -25567 ≤ dnum y m d ∧ dnum y m d ≤ 84005 := by
  have h1 := day_in h
  have h2 := J_mono 1900 y h.1
  have h3 := J_mono (y + 1) 2200 (by have := h.2.1; omega)
  rw [J_first] at h2
  rw [J_last] at h3
  omega

theorem day_lt {y m d y' m' d' : Int} (h : Day y m d) (h' : Day y' m' d') (hl : y < y' ∨ (y = y' ∧ (m < m' ∨ (m = m' ∧ d < d')))) : dnum y m d < dnum y' m' d' := by
  rcases hl with hy | ⟨rfl, hm | ⟨rfl, hd⟩⟩
  · have h1 := day_in h
    have h2 := day_in h'
    have h3 := J_mono (y + 1) y' (by omega)
    omega
  · obtain ⟨y1, y2, m1, m2, d1, d2⟩ := h
    obtain ⟨_, _, m1', m2', d1', d2'⟩ := h'
    rw [dnum_eq y m d m1 m2, dnum_eq y m' d' m1' m2']
    have h1 := cum_succ y m m1 m2
    have h2 := cum_mono y (m + 1) m' (by omega) (by omega) (by omega)
    omega
  · rw [dnum_eq y m d h.2.2.1 h.2.2.2.1, dnum_eq y m d' h.2.2.1 h.2.2.2.1]; omega

/-! ### texts -/

/-- The first place at which two texts differ. -/
def Less (a b : List Int) : Prop := ∃ i, i < 10 ∧ (∀ j, j < i → a.getD j 0 = b.getD j 0) ∧ a.getD i 0 < b.getD i 0

theorem valid_day {zs : List Int} (h : ValidZ zs) : Day (yZ zs) (mZ zs) (dZ zs) := h.2

theorem less_days {a b : List Int} (ha : ValidZ a) (hb : ValidZ b) (h : Less a b) : dnum (yZ a) (mZ a) (dZ a) < dnum (yZ b) (mZ b) (dZ b) := by
  refine day_lt (valid_day ha) (valid_day hb) ?_
  obtain ⟨i, hi, he, hl⟩ := h
  obtain ⟨⟨_, a4, a7, ⟨a0, a1, a2, a3⟩, ⟨a5, a6⟩, ⟨a8, a9⟩⟩, _⟩ := ha
  obtain ⟨⟨_, b4, b7, ⟨b0, b1, b2, b3⟩, ⟨b5, b6⟩, ⟨b8, b9⟩⟩, _⟩ := hb
  unfold okD at *
  unfold yZ mZ dZ
  rcases (show i = 0 ∨ i = 1 ∨ i = 2 ∨ i = 3 ∨ i = 4 ∨ i = 5 ∨ i = 6 ∨ i = 7 ∨ i = 8 ∨ i = 9 from by omega) with rfl | rfl | rfl | rfl | rfl | rfl | rfl | rfl | rfl | rfl
  · left; omega
  · have e0 := he 0 (by omega); left; omega
  · have e0 := he 0 (by omega); have e1 := he 1 (by omega); left; omega
  · have e0 := he 0 (by omega); have e1 := he 1 (by omega); have e2 := he 2 (by omega); left; omega
  · omega
  · have e0 := he 0 (by omega); have e1 := he 1 (by omega); have e2 := he 2 (by omega); have e3 := he 3 (by omega)
    right; refine ⟨by omega, ?_⟩; left; omega
  · have e0 := he 0 (by omega); have e1 := he 1 (by omega); have e2 := he 2 (by omega); have e3 := he 3 (by omega); have e5 := he 5 (by omega)
    right; refine ⟨by omega, ?_⟩; left; omega
  · omega
  · have e0 := he 0 (by omega); have e1 := he 1 (by omega); have e2 := he 2 (by omega); have e3 := he 3 (by omega); have e5 := he 5 (by omega); have e6 := he 6 (by omega)
    right; refine ⟨by omega, ?_⟩; right; exact ⟨by omega, by omega⟩
  · have e0 := he 0 (by omega); have e1 := he 1 (by omega); have e2 := he 2 (by omega); have e3 := he 3 (by omega); have e5 := he 5 (by omega); have e6 := he 6 (by omega); have e8 := he 8 (by omega)
    right; refine ⟨by omega, ?_⟩; right; exact ⟨by omega, by omega⟩

theorem same_days {a b : List Int} (h : ∀ j, j < 10 → a.getD j 0 = b.getD j 0) : dnum (yZ a) (mZ a) (dZ a) = dnum (yZ b) (mZ b) (dZ b) := by
  unfold yZ mZ dZ
  rw [h 0 (by omega), h 1 (by omega), h 2 (by omega), h 3 (by omega), h 5 (by omega), h 6 (by omega), h 8 (by omega), h 9 (by omega)]

/-- What zzCompareBytes answers of two texts of ten bytes. -/
def Cmp (r : Int) (a b : List Int) : Prop := (r = -1 ∧ Less a b) ∨ (r = 1 ∧ Less b a) ∨ (r = 0 ∧ ∀ j, j < 10 → a.getD j 0 = b.getD j 0)
def sgn (x y : Int) : Int := if x < y then -1 else if y < x then 1 else 0

theorem cmp_sgn {r : Int} {a b : List Int} (ha : ValidZ a) (hb : ValidZ b) (h : Cmp r a b) : sgn (dnum (yZ a) (mZ a) (dZ a)) (dnum (yZ b) (mZ b) (dZ b)) = r := by
  unfold sgn
  rcases h with ⟨rfl, h⟩ | ⟨rfl, h⟩ | ⟨rfl, h⟩
  · rw [if_pos (less_days ha hb h)]
  · have := less_days hb ha h
    rw [if_neg (by omega), if_pos this]
  · rw [same_days h, if_neg (by omega), if_neg (by omega)]

end Go.Proofs.Qxb6630431aFmt.Dates
