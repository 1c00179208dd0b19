/- Plain integer facts on the Gregorian calendar: days up to a year, days of months, and their sums. No program is in sight here. -/

namespace Go.Proofs.YthkgjhnckakliaaGreatDoorR.Pl

def leap (y : Int) : Bool := y % 4 == 0 && (y % 100 != 0 || y % 400 == 0)
def ydays (y : Int) : Int := if leap y then 366 else 365
def mdays (m y : Int) : Int := if m = 2 then (if leap y then 29 else 28) else if m = 4 ∨ m = 6 ∨ m = 9 ∨ m = 11 then 30 else 31
/-- Days from the beginning of the year 1 to that of the year y, by floors. -/
def daysTo (y : Int) : Int := 365 * (y - 1) + (y - 1) / 4 - (y - 1) / 100 + (y - 1) / 400
/-- The days of the first k months. -/
def cum (y : Int) : Nat → Int
  | 0 => 0
  | k + 1 => cum y k + mdays ((k : Int) + 1) y
/-- The days of a date. -/
def daysOf (y m d : Int) : Int := daysTo (y + (m - 1) / 12) + d - 1 + cum (y + (m - 1) / 12) ((m - 1) % 12).toNat

theorem mdays_bd (m y : Int) : 28 ≤ mdays m y ∧ mdays m y ≤ 31 := by
  unfold mdays; split <;> (try split) <;> omega
theorem cum_bd (y : Int) : ∀ k : Nat, 28 * (k : Int) ≤ cum y k ∧ cum y k ≤ 31 * k
  | 0 => by simp [cum]
  | k + 1 => by have := cum_bd y k; have := mdays_bd (k + 1) y; simp only [cum]; omega
theorem daysTo_bd (y : Int) (h0 : -1000000 ≤ y) (h1 : y ≤ 1000000) : -366000400 ≤ daysTo y ∧ daysTo y ≤ 366000400 := by
  unfold daysTo; omega
theorem leap_iff (y : Int) : leap y = true ↔ (y % 4 = 0 ∧ (y % 100 ≠ 0 ∨ y % 400 = 0)) := by
  unfold leap; simp
theorem daysTo_succ (y : Int) : daysTo (y + 1) = daysTo y + ydays y := by
  have h := leap_iff y
  unfold ydays daysTo
  by_cases hl : leap y = true
  · rw [if_pos hl]; have := h.1 hl; omega
  · rw [if_neg hl]; have h2 : ¬ (y % 4 = 0 ∧ (y % 100 ≠ 0 ∨ y % 400 = 0)) := fun x => hl (h.2 x); omega
theorem cum12 (y : Int) : cum y 12 = ydays y := by
  simp only [cum, mdays, ydays]; cases leap y <;> simp
theorem tmod_zero_iff (a b : Int) : a.tmod b = 0 ↔ a % b = 0 := by
  rw [← Int.dvd_iff_tmod_eq_zero, ← Int.dvd_iff_emod_eq_zero]

/-- The year of a number of days, by groups of 400, 100, 4 years and one. -/
def yearOf (D : Int) : Int :=
  let r := D - D / 146097 * 146097
  let c := if r / 36524 = 4 then 3 else r / 36524
  let r2 := r - c * 36524
  let r3 := r2 - r2 / 1461 * 1461
  let o := if r3 / 365 = 4 then 3 else r3 / 365
  400 * (D / 146097) + 100 * c + 4 * (r2 / 1461) + o + 1

theorem yearOf_parts (D : Int) : ∃ q c f o x : Int, yearOf D = 400 * q + 100 * c + 4 * f + o + 1 ∧ D = q * 146097 + c * 36524 + f * 1461 + o * 365 + x ∧ 0 ≤ c ∧ c ≤ 3 ∧ 0 ≤ f ∧ f ≤ 24 ∧ 0 ≤ o ∧ o ≤ 3 ∧ 0 ≤ x ∧ x ≤ 365 ∧ (x = 365 → o = 3 ∧ (f = 24 → c = 3)) ∧
    q = D / 146097 ∧ c = (if (D - q * 146097) / 36524 = 4 then 3 else (D - q * 146097) / 36524) ∧ f = (D - q * 146097 - c * 36524) / 1461 ∧ o = (if (D - q * 146097 - c * 36524 - f * 1461) / 365 = 4 then 3 else (D - q * 146097 - c * 36524 - f * 1461) / 365) := by
  have key : ∀ q c f o : Int, q = D / 146097 → c = (if (D - q * 146097) / 36524 = 4 then 3 else (D - q * 146097) / 36524) → f = (D - q * 146097 - c * 36524) / 1461 → o = (if (D - q * 146097 - c * 36524 - f * 1461) / 365 = 4 then 3 else (D - q * 146097 - c * 36524 - f * 1461) / 365) →
      0 ≤ c ∧ c ≤ 3 ∧ 0 ≤ f ∧ f ≤ 24 ∧ 0 ≤ o ∧ o ≤ 3 ∧ 0 ≤ D - q * 146097 - c * 36524 - f * 1461 - o * 365 ∧ D - q * 146097 - c * 36524 - f * 1461 - o * 365 ≤ 365 ∧ (D - q * 146097 - c * 36524 - f * 1461 - o * 365 = 365 → o = 3 ∧ (f = 24 → c = 3)) := by
    intro q c f o hq hc hf ho
    have h1 : 0 ≤ D - q * 146097 ∧ D - q * 146097 < 146097 := by omega
    have h2 : 0 ≤ c ∧ c ≤ 3 ∧ 0 ≤ D - q * 146097 - c * 36524 ∧ (D - q * 146097 - c * 36524 < 36524 ∨ c = 3 ∧ D - q * 146097 - c * 36524 = 36524) := by
      split at hc <;> omega
    have h3 : 0 ≤ f ∧ f ≤ 24 ∧ 0 ≤ D - q * 146097 - c * 36524 - f * 1461 ∧ D - q * 146097 - c * 36524 - f * 1461 < 1461 ∧ (f = 24 → c < 3 → D - q * 146097 - c * 36524 - f * 1461 < 1460) := by omega
    have h4 : 0 ≤ o ∧ o ≤ 3 ∧ 0 ≤ D - q * 146097 - c * 36524 - f * 1461 - o * 365 ∧ D - q * 146097 - c * 36524 - f * 1461 - o * 365 ≤ 365 ∧ (D - q * 146097 - c * 36524 - f * 1461 - o * 365 = 365 → o = 3) := by
      split at ho <;> omega
    omega
  have k := key _ _ _ _ rfl rfl rfl rfl
  refine ⟨_, _, _, _, _, rfl, ?_, k.1, k.2.1, k.2.2.1, k.2.2.2.1, k.2.2.2.2.1, k.2.2.2.2.2.1, k.2.2.2.2.2.2.1, k.2.2.2.2.2.2.2.1, k.2.2.2.2.2.2.2.2, rfl, rfl, rfl, rfl⟩
  omega

theorem yearOf_in (D : Int) : daysTo (yearOf D) ≤ D ∧ D < daysTo (yearOf D + 1) := by
  obtain ⟨q, c, f, o, x, hy, hD, a1, a2, a3, a4, a5, a6, a7, a8, a9, _, _, _, _⟩ := yearOf_parts D
  rw [hy]; unfold daysTo
  have e4 : (400 * q + 100 * c + 4 * f + o + 1 - 1) / 4 = 100 * q + 25 * c + f := by omega
  have e100 : (400 * q + 100 * c + 4 * f + o + 1 - 1) / 100 = 4 * q + c := by omega
  have e400 : (400 * q + 100 * c + 4 * f + o + 1 - 1) / 400 = q := by omega
  have g4 : (400 * q + 100 * c + 4 * f + o + 1 + 1 - 1) / 4 = 100 * q + 25 * c + f + (o + 1) / 4 := by omega
  have g100 : (400 * q + 100 * c + 4 * f + o + 1 + 1 - 1) / 100 = 4 * q + c + (4 * f + o + 1) / 100 := by omega
  have g400 : (400 * q + 100 * c + 4 * f + o + 1 + 1 - 1) / 400 = q + (100 * c + 4 * f + o + 1) / 400 := by omega
  rw [e4, e100, e400, g4, g100, g400]
  clear e4 e100 e400 g4 g100 g400
  refine ⟨by omega, ?_⟩
  by_cases h3 : o = 3
  · subst h3
    by_cases h24 : f = 24
    · subst h24
      by_cases hc : c = 3
      · subst hc; omega
      · have : (100 * c + 4 * 24 + 3 + 1) / 400 = 0 := by omega
        omega
    · have : (4 * f + 3 + 1) / 100 = 0 := by omega
      have : (100 * c + 4 * f + 3 + 1) / 400 = 0 := by omega
      omega
  · have : (4 * f + o + 1) / 100 = 0 := by omega
    have : (100 * c + 4 * f + o + 1) / 400 = 0 := by omega
    omega

/-- The day of the year, from 0 on, by the same groups. -/
def ydayOf (D : Int) : Int :=
  let r := D - D / 146097 * 146097
  let c := if r / 36524 = 4 then 3 else r / 36524
  let r2 := r - c * 36524
  let r3 := r2 - r2 / 1461 * 1461
  let o := if r3 / 365 = 4 then 3 else r3 / 365
  r3 - o * 365

theorem yearOf_of (D c o : Int) (hc : c = if (D - D / 146097 * 146097) / 36524 = 4 then 3 else (D - D / 146097 * 146097) / 36524)
    (ho : o = if (D - D / 146097 * 146097 - c * 36524 - (D - D / 146097 * 146097 - c * 36524) / 1461 * 1461) / 365 = 4 then 3 else (D - D / 146097 * 146097 - c * 36524 - (D - D / 146097 * 146097 - c * 36524) / 1461 * 1461) / 365) :
    yearOf D = 400 * (D / 146097) + 100 * c + 4 * ((D - D / 146097 * 146097 - c * 36524) / 1461) + o + 1 ∧
    ydayOf D = D - D / 146097 * 146097 - c * 36524 - (D - D / 146097 * 146097 - c * 36524) / 1461 * 1461 - o * 365 := by
  subst ho hc; exact ⟨rfl, rfl⟩

theorem ydayOf_eq (D : Int) : ydayOf D = D - daysTo (yearOf D) := by
  obtain ⟨q, c, f, o, x, hy, hD, a1, a2, a3, a4, a5, a6, a7, a8, a9, eq, ec, ef, eo⟩ := yearOf_parts D
  have h1 : ydayOf D = D - q * 146097 - c * 36524 - f * 1461 - o * 365 := by subst eo ef ec eq; rfl
  rw [h1, hy]; unfold daysTo
  have e4 : (400 * q + 100 * c + 4 * f + o + 1 - 1) / 4 = 100 * q + 25 * c + f := by omega
  have e100 : (400 * q + 100 * c + 4 * f + o + 1 - 1) / 100 = 4 * q + c := by omega
  have e400 : (400 * q + 100 * c + 4 * f + o + 1 - 1) / 400 = q := by omega
  rw [e4, e100, e400]; omega

theorem daysTo_mono {a b : Int} (h : a ≤ b) : daysTo a ≤ daysTo b := by unfold daysTo; omega
/-- The year is the one in which a number of days lies. -/
theorem yearOf_eq {D y : Int} (h0 : daysTo y ≤ D) (h1 : D < daysTo (y + 1)) : yearOf D = y := by
  have h := yearOf_in D
  rcases Int.lt_trichotomy (yearOf D) y with h2 | h2 | h2
  · have := daysTo_mono (show yearOf D + 1 ≤ y by omega); omega
  · exact h2
  · have := daysTo_mono (show y + 1 ≤ yearOf D by omega); omega

end Go.Proofs.YthkgjhnckakliaaGreatDoorR.Pl
