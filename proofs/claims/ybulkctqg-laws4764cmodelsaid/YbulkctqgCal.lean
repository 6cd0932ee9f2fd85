/-
  THE PLAIN CALENDAR: no Go in sight. Days from 0001-01-01; months counted from January of year 1 (month 0).
-/
namespace Go.Proofs.Ybulkctqg.Cal

/-- Has year y a February 29? -/
def lp (y : Int) : Int := if y % 4 = 0 ∧ (y % 100 ≠ 0 ∨ y % 400 = 0) then 1 else 0
/-- The length of month mo (0: January) of year y. -/
def len0 (y mo : Int) : Int := if mo = 1 then 28 + lp y else if mo = 3 ∨ mo = 5 ∨ mo = 8 ∨ mo = 10 then 30 else 31
/-- The days before March 1 of year y, from 0000-03-01. -/
def dbm (y : Int) : Int := 365 * y + y / 4 - y / 100 + y / 400
/-- The days of a year from March before its month k. -/
def dfm (k : Int) : Int := (979 * k + 15) / 32
/-- The days from 0001-01-01 to the first day of month m. -/
def ms (m : Int) : Int := dbm ((m + 10) / 12) + dfm ((m + 10) % 12) - 306

theorem lp_01 (y : Int) : lp y = 0 ∨ lp y = 1 := by unfold lp; split <;> simp
theorem len0_bd (y mo : Int) : 28 ≤ len0 y mo ∧ len0 y mo ≤ 31 := by
  have := lp_01 y
  unfold len0
  split
  · omega
  · split <;> omega

theorem dbm_succ (y : Int) : dbm (y + 1) = dbm y + 365 + lp (y + 1) := by
  unfold dbm lp
  split <;> omega

theorem ms_of (y k : Int) (h0 : 0 ≤ k) (h1 : k < 12) : ms (12 * y + k - 10) = dbm y + dfm k - 306 := by
  unfold ms
  have e : 12 * y + k - 10 + 10 = 12 * y + k := by omega
  rw [e]
  have e1 : (12 * y + k) / 12 = y := by omega
  have e2 : (12 * y + k) % 12 = k := by omega
  rw [e1, e2]

/-- One step: the length of month k (from March) of the March-year y. -/
theorem ms_zero : ms 0 = 0 := by decide

theorem ms_step (y mo : Int) (h0 : 0 ≤ mo) (h1 : mo < 12) : ms (12 * (y - 1) + mo + 1) - ms (12 * (y - 1) + mo) = len0 y mo := by
  by_cases h : mo ≤ 1
  · have a := ms_of (y - 1) (mo + 10) (by omega) (by omega)
    rw [show 12 * (y - 1) + (mo + 10) - 10 = 12 * (y - 1) + mo by omega] at a
    by_cases e : mo = 1
    · subst e
      have b := ms_of y 0 (by omega) (by omega)
      rw [show 12 * y + 0 - 10 = 12 * (y - 1) + 1 + 1 by omega] at b
      have c := dbm_succ (y - 1)
      rw [show y - 1 + 1 = y by omega] at c
      rw [a, b, c]
      have d1 : dfm (1 + 10) = 337 := by decide
      have d2 : dfm 0 = 0 := by decide
      have d3 : len0 y 1 = 28 + lp y := by simp [len0]
      omega
    · have e0 : mo = 0 := by omega
      subst e0
      have b := ms_of (y - 1) 11 (by omega) (by omega)
      rw [show 12 * (y - 1) + 11 - 10 = 12 * (y - 1) + 0 + 1 by omega] at b
      rw [a, b]
      have d1 : dfm 11 = 337 := by decide
      have d2 : dfm (0 + 10) = 306 := by decide
      have d3 : len0 y 0 = 31 := by simp [len0]
      omega
  · have a := ms_of y (mo - 2) (by omega) (by omega)
    rw [show 12 * y + (mo - 2) - 10 = 12 * (y - 1) + mo by omega] at a
    have b := ms_of y (mo - 1) (by omega) (by omega)
    rw [show 12 * y + (mo - 1) - 10 = 12 * (y - 1) + mo + 1 by omega] at b
    rw [a, b]
    unfold dfm len0
    have hc : mo = 2 ∨ mo = 3 ∨ mo = 4 ∨ mo = 5 ∨ mo = 6 ∨ mo = 7 ∨ mo = 8 ∨ mo = 9 ∨ mo = 10 ∨ mo = 11 := by omega
    rcases hc with rfl | rfl | rfl | rfl | rfl | rfl | rfl | rfl | rfl | rfl <;> simp <;> omega

/-- The length of month m. -/
def mlen (m : Int) : Int := len0 (m / 12 + 1) (m % 12)
theorem ms_next (m : Int) : ms (m + 1) = ms m + mlen m := by
  have h := ms_step (m / 12 + 1) (m % 12) (by omega) (by omega)
  rw [show 12 * (m / 12 + 1 - 1) + m % 12 = m by omega] at h
  unfold mlen
  omega
theorem mlen_bd (m : Int) : 28 ≤ mlen m ∧ mlen m ≤ 31 := len0_bd _ _

/-- Months in order: the first day of a later month is not before the end of an earlier one. -/
theorem ms_mono_nat (a : Int) : ∀ n : Nat, ms a + n ≤ ms (a + n)
  | 0 => by simp
  | n + 1 => by
    have h := ms_mono_nat a n
    have k := ms_next (a + n)
    have b := mlen_bd (a + n)
    rw [show a + ((n + 1 : Nat) : Int) = a + n + 1 by omega]
    omega
theorem ms_mono {a b : Int} (h : a ≤ b) : ms a + (b - a) ≤ ms b := by
  have := ms_mono_nat a (b - a).toNat
  rw [show a + ((b - a).toNat : Int) = b by omega] at this
  omega
theorem ms_after {a b : Int} (h : a < b) : ms a + mlen a ≤ ms b := by
  have h1 := ms_next a
  have h2 := ms_mono (a := a + 1) (b := b) (by omega)
  omega

/-- The sum of the lengths of the first k months of year y. -/
def cum (y : Int) : Nat → Int
  | 0 => 0
  | k + 1 => cum y k + len0 y k
theorem ms_cum (y : Int) : ∀ k : Nat, k ≤ 12 → ms (12 * (y - 1) + k) = ms (12 * (y - 1)) + cum y k
  | 0, _ => by simp [cum]
  | k + 1, h => by
    have ih := ms_cum y k (by omega)
    have s := ms_step y k (by omega) (by omega)
    rw [show 12 * (y - 1) + ((k + 1 : Nat) : Int) = 12 * (y - 1) + k + 1 by omega]
    simp only [cum]
    omega
theorem ms_year (p : Int) : ms (12 * p) = 365 * p + p / 4 - p / 100 + p / 400 := by
  have a := ms_of p 10 (by omega) (by omega)
  rw [show 12 * p + 10 - 10 = 12 * p by omega] at a
  have d : dfm 10 = 306 := by decide
  rw [a, d]
  unfold dbm
  omega
theorem cum_bd (y : Int) : ∀ k : Nat, 0 ≤ cum y k ∧ cum y k ≤ 31 * k
  | 0 => by simp [cum]
  | k + 1 => by
    have := cum_bd y k
    have := len0_bd y k
    simp only [cum]
    omega

theorem ms_bd (m : Int) (h0 : 0 ≤ m) (h1 : m ≤ 119988) : 0 ≤ ms m ∧ ms m ≤ 3652059 := by
  have a := ms_mono h0
  have b := ms_mono h1
  have z := ms_zero
  have t : ms 119988 = 3652059 := by decide
  omega

end Go.Proofs.Ybulkctqg.Cal
