/-
  THE PLAIN CALENDAR, 2: no Go in sight: the month of a day; civil dates; the borrow rule.
-/
import Derived.Test.YbulkctqgCal
namespace Go.Proofs.Ybulkctqg.Cal

/-! ### monthOfDay, step by step -/
/-- The century, and the quarter days behind it with the last two bits set. -/
def cen (n : Int) : Int := (4 * n + 1227) / 146097
def rem3 (n : Int) : Int := 4 * ((4 * n + 1227) % 146097 / 4) + 3
def yr (n : Int) : Int := rem3 n / 1461
def dy (n : Int) : Int := rem3 n % 1461 / 4
def mn (n : Int) : Int := (535 * dy n + 331) / 16384
def mod (n : Int) : Int := 12 * (100 * cen n + yr n) + mn n - 10
def off (n : Int) : Int := dy n - dfm (mn n)

theorem cen_bd (n : Int) (h0 : 0 ≤ n) (h1 : n ≤ 3652058) : 0 ≤ cen n ∧ cen n ≤ 99 := by unfold cen; omega
theorem rem3_bd (n : Int) : 3 ≤ rem3 n ∧ rem3 n ≤ 146099 := by unfold rem3; omega
theorem yr_bd (n : Int) : 0 ≤ yr n ∧ yr n ≤ 99 := by have := rem3_bd n; unfold yr; omega
theorem dy_bd (n : Int) : 0 ≤ dy n ∧ dy n ≤ 365 := by have := rem3_bd n; unfold dy; omega
theorem mn_bd (n : Int) : 0 ≤ mn n ∧ mn n ≤ 11 := by have := dy_bd n; unfold mn; omega

theorem rem3_eq (n : Int) : rem3 n = 4 * (n + 306 - 36524 * cen n - cen n / 4) + 3 := by unfold rem3 cen; omega
theorem dy_eq (n : Int) : dy n = n + 306 - 36524 * cen n - cen n / 4 - 365 * yr n - yr n / 4 := by
  have h := rem3_eq n
  have e : dy n = (rem3 n - 3) / 4 - 365 * yr n - yr n / 4 := by
    have h4 : rem3 n % 4 = 3 := by omega
    unfold dy yr
    omega
  omega
theorem dbm_eq (c y : Int) (h0 : 0 ≤ y) (h1 : y ≤ 99) : dbm (100 * c + y) = 36524 * c + c / 4 + 365 * y + y / 4 := by unfold dbm; omega
theorem day_eq (n : Int) : dbm (100 * cen n + yr n) + dy n = n + 306 := by
  have a := dy_eq n
  have b := yr_bd n
  rw [dbm_eq _ _ b.1 b.2]
  omega

/-- The month of a day within its year from March. -/
theorem mn_le (n : Int) : dfm (mn n) ≤ dy n := by
  have := dy_bd n
  have hm := mn_bd n
  unfold dfm
  have e : mn n = (535 * dy n + 331) / 16384 := rfl
  have hc : mn n = 0 ∨ mn n = 1 ∨ mn n = 2 ∨ mn n = 3 ∨ mn n = 4 ∨ mn n = 5 ∨ mn n = 6 ∨ mn n = 7 ∨ mn n = 8 ∨ mn n = 9 ∨ mn n = 10 ∨ mn n = 11 := by omega
  rcases hc with h | h | h | h | h | h | h | h | h | h | h | h <;> omega
theorem mn_lt (n : Int) : dy n < dfm (mn n + 1) := by
  have := dy_bd n
  have hm := mn_bd n
  unfold dfm
  have e : mn n = (535 * dy n + 331) / 16384 := rfl
  have hc : mn n = 0 ∨ mn n = 1 ∨ mn n = 2 ∨ mn n = 3 ∨ mn n = 4 ∨ mn n = 5 ∨ mn n = 6 ∨ mn n = 7 ∨ mn n = 8 ∨ mn n = 9 ∨ mn n = 10 ∨ mn n = 11 := by omega
  rcases hc with h | h | h | h | h | h | h | h | h | h | h | h <;> omega

theorem cen_3 (n : Int) (c : rem3 n = 146099) : cen n % 4 = 3 := by
  have q : (4 * n + 1227) % 146097 = 146096 := by unfold rem3 at c; omega
  have e : 4 * n + 1227 = 146097 * cen n + 146096 := by unfold cen; omega
  clear q c
  omega
/-- Day 365 of a year from March is there only before a leap year's March. -/
theorem dy_leap (n : Int) (h : dy n = 365) : lp (100 * cen n + yr n + 1) = 1 := by
  have a := rem3_bd n
  have b := yr_bd n
  have r : rem3 n = 1461 * yr n + 1460 := by unfold dy at h; unfold yr; unfold rem3 at *; omega
  have y3 : yr n % 4 = 3 := by
    have : rem3 n % 4 = 3 := by unfold rem3; omega
    omega
  unfold lp
  rw [if_pos]
  by_cases e : yr n = 99
  · refine ⟨by omega, .inr ?_⟩
    have c : rem3 n = 146099 := by omega
    have c3 : cen n % 4 = 3 := cen_3 n c
    clear r c h a y3
    omega
  · exact ⟨by omega, .inl (by omega)⟩
theorem dy_year (n : Int) : dy n < dbm (100 * cen n + yr n + 1) - dbm (100 * cen n + yr n) := by
  have s := dbm_succ (100 * cen n + yr n)
  have b := dy_bd n
  have l := lp_01 (100 * cen n + yr n + 1)
  by_cases h : dy n = 365
  · have := dy_leap n h; omega
  · omega

/-- What monthOfDay comes to. -/
theorem mod_ms (n : Int) : ms (mod n) = dbm (100 * cen n + yr n) + dfm (mn n) - 306 := by
  have b := mn_bd n
  exact ms_of (100 * cen n + yr n) (mn n) b.1 (by omega)
theorem mod_off (n : Int) : ms (mod n) + off n = n := by
  have a := mod_ms n
  have b := day_eq n
  unfold off
  omega
theorem off_lo (n : Int) : 0 ≤ off n := by have := mn_le n; unfold off; omega
theorem off_hi (n : Int) : off n < mlen (mod n) := by
  have nx := ms_next (mod n)
  have a := mod_ms n
  have b := mn_bd n
  by_cases h : mn n = 11
  · have s := ms_of (100 * cen n + yr n + 1) 0 (by omega) (by omega)
    rw [show 12 * (100 * cen n + yr n + 1) + 0 - 10 = mod n + 1 by unfold mod; omega] at s
    have d := dy_year n
    have z : dfm 0 = 0 := by decide
    unfold off
    omega
  · have s := ms_of (100 * cen n + yr n) (mn n + 1) (by omega) (by omega)
    rw [show 12 * (100 * cen n + yr n) + (mn n + 1) - 10 = mod n + 1 by unfold mod; omega] at s
    have d := mn_lt n
    unfold off
    omega
theorem mod_bd (n : Int) (h0 : 0 ≤ n) (h1 : n ≤ 3652058) : 0 ≤ mod n ∧ mod n ≤ 119987 := by
  have a := mod_off n
  have b := off_lo n
  have c := off_hi n
  constructor
  · by_cases h : mod n < 0
    · have := ms_after h
      have := ms_zero
      omega
    · omega
  · by_cases h : 119988 ≤ mod n
    · have := ms_mono h
      have t : ms 119988 = 3652059 := by decide
      omega
    · omega
theorem off_bd (n : Int) : 0 ≤ off n ∧ off n ≤ 30 := by
  have := off_lo n
  have := off_hi n
  have := mlen_bd (mod n)
  omega

/-- The month of a day is the only one that holds it. -/
theorem mod_unique (n a o : Int) (h0 : 0 ≤ o) (h1 : o < mlen a) (h : ms a + o = n) : mod n = a ∧ off n = o := by
  have x := mod_off n
  have y := off_lo n
  have z := off_hi n
  have e : mod n = a := by
    by_cases l : mod n < a
    · have := ms_after l; omega
    · by_cases g : a < mod n
      · have := ms_after g; omega
      · omega
  subst e
  exact ⟨rfl, by omega⟩

/-- The order of days is the order of (month, day of the month). -/
theorem day_lt (n k : Int) (h : n < k) : mod n < mod k ∨ (mod n = mod k ∧ off n < off k) := by
  have x := mod_off n
  have y := mod_off k
  have z := off_hi k
  have u := off_lo n
  by_cases l : mod k < mod n
  · have := ms_after l; omega
  · by_cases e : mod n = mod k
    · rw [e] at x; exact .inr ⟨e, by omega⟩
    · exact .inl (by omega)

end Go.Proofs.Ybulkctqg.Cal
