/-
  THE PLAIN CALENDAR, 3: no Go in sight: the length of a month by the year modulo 400; the borrow rule.
-/
import Derived.Test.YbulkctqgCal2
namespace Go.Proofs.Ybulkctqg.Cal

/-- The length of month m (1: January) of year y. -/
def dim (y m : Int) : Int := len0 y (m - 1)
theorem dim_bd (y m : Int) : 28 ≤ dim y m ∧ dim y m ≤ 31 := len0_bd _ _
theorem lp_400 (y z : Int) (h : (y - z) % 400 = 0) : lp y = lp z := by
  unfold lp
  have a : (y % 4 = 0 ∧ (y % 100 ≠ 0 ∨ y % 400 = 0)) ↔ (z % 4 = 0 ∧ (z % 100 ≠ 0 ∨ z % 400 = 0)) := by omega
  simp only [a]
theorem len0_400 (y z mo : Int) (h : (y - z) % 400 = 0) : len0 y mo = len0 z mo := by
  unfold len0; rw [lp_400 y z h]
/-- DaysInMonth: a year that is a whole number of 400 years away serves. -/
theorem dim_by (y z m : Int) (h : (z - y) % 400 = 0) (g0 : 1 ≤ m) (g1 : m ≤ 12) :
    ms (12 * (z - 1) + (m - 1) + 1) - ms (12 * (z - 1) + (m - 1)) = dim y m := by
  rw [ms_step z (m - 1) (by omega) (by omega)]
  exact len0_400 z y (m - 1) h

/-- The borrow rule, later date first. -/
def days (d1 y2 m2 d2 : Int) : Int := if d1 < d2 then d1 - d2 + dim y2 m2 else d1 - d2
def fm (d1 m2 d2 : Int) : Int := if d1 < d2 then m2 + 1 else m2
def months (m1 f : Int) : Int := if m1 < f then m1 - f + 12 else m1 - f
def fy (m1 f y2 : Int) : Int := if m1 < f then y2 + 1 else y2
def model (y1 m1 d1 y2 m2 d2 : Int) : Int := (y1 - fy m1 (fm d1 m2 d2) y2) * 10000 + months m1 (fm d1 m2 d2) * 100 + days d1 y2 m2 d2

theorem model_00 {y1 m1 d1 y2 m2 d2 : Int} (h : ¬ d1 < d2) (g : ¬ m1 < m2) : (y1 - y2) * 10000 + (m1 - m2) * 100 + (d1 - d2) = model y1 m1 d1 y2 m2 d2 := by
  simp only [model, fy, months, fm, days, if_neg h, if_neg g]
theorem model_01 {y1 m1 d1 y2 m2 d2 : Int} (h : ¬ d1 < d2) (g : m1 < m2) : (y1 - (y2 + 1)) * 10000 + (m1 - m2 + 12) * 100 + (d1 - d2) = model y1 m1 d1 y2 m2 d2 := by
  simp only [model, fy, months, fm, days, if_neg h, if_pos g]
theorem model_10 {y1 m1 d1 y2 m2 d2 : Int} (h : d1 < d2) (g : ¬ m1 < m2 + 1) : (y1 - y2) * 10000 + (m1 - (m2 + 1)) * 100 + (d1 - d2 + dim y2 m2) = model y1 m1 d1 y2 m2 d2 := by
  simp only [model, fy, months, fm, days, if_pos h, if_neg g]
theorem model_11 {y1 m1 d1 y2 m2 d2 : Int} (h : d1 < d2) (g : m1 < m2 + 1) : (y1 - (y2 + 1)) * 10000 + (m1 - (m2 + 1) + 12) * 100 + (d1 - d2 + dim y2 m2) = model y1 m1 d1 y2 m2 d2 := by
  simp only [model, fy, months, fm, days, if_pos h, if_pos g]

/-- A civil date that is there. -/
structure Ok (y m d : Int) : Prop where
  y0 : 1 ≤ y
  y1 : y ≤ 9999
  m0 : 1 ≤ m
  m1 : m ≤ 12
  d0 : 1 ≤ d
  d1 : d ≤ dim y m

/-- Not earlier. -/
def Ge (y1 m1 d1 y2 m2 d2 : Int) : Prop := y2 < y1 ∨ (y1 = y2 ∧ (m2 < m1 ∨ (m1 = m2 ∧ d2 ≤ d1)))

/-- THE SHAPE: years 0 to 9998, months 0 to 11, days 0 to 30; zero at one date alone. -/
theorem model_shape {y1 m1 d1 y2 m2 d2 : Int} (a : Ok y1 m1 d1) (b : Ok y2 m2 d2) (h : Ge y1 m1 d1 y2 m2 d2) :
    ∃ Y M D : Int, model y1 m1 d1 y2 m2 d2 = Y * 10000 + M * 100 + D ∧ 0 ≤ Y ∧ Y ≤ 9998 ∧ 0 ≤ M ∧ M ≤ 11 ∧ 0 ≤ D ∧ D ≤ 30 ∧ (Y = 0 → M = 0 → D = 0 → y1 = y2 ∧ m1 = m2 ∧ d1 = d2) := by
  obtain ⟨a1, a2, a3, a4, a5, a6⟩ := a
  obtain ⟨b1, b2, b3, b4, b5, b6⟩ := b
  have c := dim_bd y1 m1
  have d := dim_bd y2 m2
  unfold Ge at h
  by_cases p : d1 < d2
  · by_cases q : m1 < m2 + 1
    · exact ⟨_, _, _, (model_11 p q).symm, by omega, by omega, by omega, by omega, by omega, by omega, by omega⟩
    · exact ⟨_, _, _, (model_10 p q).symm, by omega, by omega, by omega, by omega, by omega, by omega, by omega⟩
  · by_cases q : m1 < m2
    · exact ⟨_, _, _, (model_01 p q).symm, by omega, by omega, by omega, by omega, by omega, by omega, by omega⟩
    · exact ⟨_, _, _, (model_00 p q).symm, by omega, by omega, by omega, by omega, by omega, by omega, by omega⟩

/-- The civil parts of a day. -/
def cy (n : Int) : Int := mod n / 12 + 1
def cm (n : Int) : Int := mod n % 12 + 1
def cd (n : Int) : Int := off n + 1
theorem civ_ok (n : Int) (h0 : 0 ≤ n) (h1 : n ≤ 3652058) : Ok (cy n) (cm n) (cd n) := by
  have a := mod_bd n h0 h1
  have b := off_lo n
  have c := off_hi n
  unfold mlen at c
  refine ⟨by unfold cy; omega, by unfold cy; omega, by unfold cm; omega, by unfold cm; omega, by unfold cd; omega, ?_⟩
  unfold cd dim cm cy
  rw [show mod n % 12 + 1 - 1 = mod n % 12 by omega]
  omega
theorem civ_ge (n k : Int) (h : k ≤ n) : Ge (cy n) (cm n) (cd n) (cy k) (cm k) (cd k) := by
  by_cases e : k = n
  · subst e; exact .inr ⟨rfl, .inr ⟨rfl, Int.le_refl _⟩⟩
  · have := day_lt k n (by omega)
    unfold Ge cy cm cd
    omega
theorem civ_back (n : Int) : n = ms (12 * (cy n - 1) + (cm n - 1)) + cd n - 1 := by
  have := mod_off n
  unfold cy cm cd
  rw [show 12 * (mod n / 12 + 1 - 1) + (mod n % 12 + 1 - 1) = mod n by omega]
  omega
/-- Sub's value. -/
def sub (n k : Int) : Int := model (cy n) (cm n) (cd n) (cy k) (cm k) (cd k)
theorem sub_shape (n k : Int) (n0 : 0 ≤ n) (n1 : n ≤ 3652058) (k0 : 0 ≤ k) (k1 : k ≤ 3652058) (h : k ≤ n) :
    ∃ Y M D : Int, sub n k = Y * 10000 + M * 100 + D ∧ 0 ≤ Y ∧ Y ≤ 9998 ∧ 0 ≤ M ∧ M ≤ 11 ∧ 0 ≤ D ∧ D ≤ 30 ∧ (Y = 0 → M = 0 → D = 0 → n = k) := by
  obtain ⟨Y, M, D, e, h1, h2, h3, h4, h5, h6, h7⟩ := model_shape (civ_ok n n0 n1) (civ_ok k k0 k1) (civ_ge n k h)
  refine ⟨Y, M, D, e, h1, h2, h3, h4, h5, h6, fun a b c => ?_⟩
  obtain ⟨p, q, r⟩ := h7 a b c
  have x := civ_back n
  have y := civ_back k
  rw [p, q, r] at x
  omega
theorem sub_self (n : Int) : sub n n = 0 := by
  unfold sub
  rw [← model_00 (by omega) (by omega)]
  omega

/-- The day of a civil date, and back. -/
def dayOf (y m d : Int) : Int := ms (12 * (y - 1) + (m - 1)) + d - 1
theorem dayOf_bd {y m d : Int} (a : Ok y m d) : 0 ≤ dayOf y m d ∧ dayOf y m d ≤ 3652058 := by
  obtain ⟨a1, a2, a3, a4, a5, a6⟩ := a
  have n := ms_step y (m - 1) (by omega) (by omega)
  have lo := ms_bd (12 * (y - 1) + (m - 1)) (by omega) (by omega)
  have hi := ms_bd (12 * (y - 1) + (m - 1) + 1) (by omega) (by omega)
  unfold dayOf
  unfold dim at a6
  omega
theorem civ_of {y m d : Int} (a : Ok y m d) : cy (dayOf y m d) = y ∧ cm (dayOf y m d) = m ∧ cd (dayOf y m d) = d := by
  obtain ⟨a1, a2, a3, a4, a5, a6⟩ := a
  have l : mlen (12 * (y - 1) + (m - 1)) = dim y m := by
    unfold mlen dim
    rw [show (12 * (y - 1) + (m - 1)) / 12 + 1 = y by omega, show (12 * (y - 1) + (m - 1)) % 12 = m - 1 by omega]
  obtain ⟨p, q⟩ := mod_unique (dayOf y m d) (12 * (y - 1) + (m - 1)) (d - 1) (by omega) (by omega) (by unfold dayOf; omega)
  unfold cy cm cd
  rw [p, q]
  omega
theorem key_lt {y1 m1 d1 y2 m2 d2 : Int} (a : Ok y1 m1 d1) (b : Ok y2 m2 d2) :
    dayOf y1 m1 d1 < dayOf y2 m2 d2 ↔ y1 * 10000 + m1 * 100 + d1 < y2 * 10000 + m2 * 100 + d2 := by
  have p := civ_of a
  have q := civ_of b
  have ca := dim_bd y1 m1
  have cb := dim_bd y2 m2
  obtain ⟨a1, a2, a3, a4, a5, a6⟩ := a
  obtain ⟨b1, b2, b3, b4, b5, b6⟩ := b
  constructor
  · intro h
    have x := day_lt _ _ h
    unfold cy cm cd at p q
    omega
  · intro h
    have nle : ¬ dayOf y2 m2 d2 ≤ dayOf y1 m1 d1 := by
      intro g
      have x := civ_ge _ _ g
      rw [p.1, p.2.1, p.2.2, q.1, q.2.1, q.2.2] at x
      unfold Ge at x
      omega
    omega

end Go.Proofs.Ybulkctqg.Cal
