/- The plain calendar and the plain layout of the bits: no Go in sight. -/
namespace Go.Proofs.Qxb6604992a.Plain

def leap (y : Int) : Bool := (y % 4 == 0) && ((y % 100 != 0) || (y % 400 == 0))
def dim (y m : Int) : Int := if m = 2 then (if leap y = true then 29 else 28) else if m = 4 ∨ m = 6 ∨ m = 9 ∨ m = 11 then 30 else 31
def dbm (m : Int) : Int :=
  if m = 1 then 0 else if m = 2 then 31 else if m = 3 then 59 else if m = 4 then 90 else if m = 5 then 120 else if m = 6 then 151 else if m = 7 then 181
  else if m = 8 then 212 else if m = 9 then 243 else if m = 10 then 273 else if m = 11 then 304 else 334

/-- The day's number, as the law's model counts it. -/
def model (y m d : Int) : Int := 365 * y + (y + 3) / 4 - (y + 99) / 100 + (y + 399) / 400 + dbm m + d - 1 + if 2 < m ∧ leap y = true then 1 else 0

/-- The day's number, as DayNumber counts it: Y the years, M the months from March on. -/
def dn (Y M d : Int) : Int := 1461 * Y / 4 - Y / 100 + Y / 100 / 4 + (979 * M - 2919) / 32 + d - 1 - 3652425000 + 60
def dnum (y m d : Int) : Int := if m ≤ 2 then dn (y + 10000000 - 1) (m + 12) d else dn (y + 10000000) m d

/-- A date of the years 0000 to 9999. -/
structure Valid (y m d : Int) : Prop where
  y0 : 0 ≤ y
  y1 : y ≤ 9999
  m0 : 1 ≤ m
  m1 : m ≤ 12
  d0 : 1 ≤ d
  d1 : d ≤ dim y m

theorem leap_iff (y : Int) : leap y = true ↔ y % 4 = 0 ∧ (y % 100 ≠ 0 ∨ y % 400 = 0) := by
  unfold leap
  simp

theorem dim_le (y m : Int) : 28 ≤ dim y m ∧ dim y m ≤ 31 := by
  unfold dim
  split
  · split <;> omega
  · split <;> omega

/-- The days of the years before Y, counted from March. -/
theorem years (y : Int) : 1461 * (y + 10000000) / 4 - (y + 10000000) / 100 + (y + 10000000) / 100 / 4 = 3652425000 + 365 * y + (y / 4 - y / 100 + y / 400) := by
  have h1 : 1461 * (y + 10000000) / 4 = 3652500000 + 365 * y + y / 4 := by omega
  have h2 : (y + 10000000) / 100 = 100000 + y / 100 := by omega
  have h3 : (100000 + y / 100) / 4 = 25000 + y / 400 := by omega
  rw [h1, h2, h3]
  omega

theorem ups (y : Int) : (y + 3) / 4 - (y + 99) / 100 + (y + 399) / 400 = (y - 1) / 4 - (y - 1) / 100 + (y - 1) / 400 + 1 := by
  have h1 : (y + 3) / 4 = (y - 1) / 4 + 1 := by omega
  have h2 : (y + 99) / 100 = (y - 1) / 100 + 1 := by omega
  have h3 : (y + 399) / 400 = (y - 1) / 400 + 1 := by omega
  rw [h1, h2, h3]
  omega

theorem leaps (y : Int) : (y + 3) / 4 - (y + 99) / 100 + (y + 399) / 400 + (if leap y = true then 1 else 0) = y / 4 - y / 100 + y / 400 + 1 := by
  have a1 : y % 4 = 0 → (y + 3) / 4 = y / 4 := by omega
  have a2 : y % 4 ≠ 0 → (y + 3) / 4 = y / 4 + 1 := by omega
  have b1 : y % 100 = 0 → (y + 99) / 100 = y / 100 := by omega
  have b2 : y % 100 ≠ 0 → (y + 99) / 100 = y / 100 + 1 := by omega
  have c1 : y % 400 = 0 → (y + 399) / 400 = y / 400 := by omega
  have c2 : y % 400 ≠ 0 → (y + 399) / 400 = y / 400 + 1 := by omega
  have hl := leap_iff y
  by_cases h4 : y % 4 = 0
  · by_cases h100 : y % 100 = 0
    · by_cases h400 : y % 400 = 0
      · rw [if_pos (hl.2 ⟨h4, .inr h400⟩), a1 h4, b1 h100, c1 h400]
      · rw [if_neg (fun h => by have := hl.1 h; omega), a1 h4, b1 h100, c2 h400]; omega
    · rw [if_pos (hl.2 ⟨h4, .inl h100⟩), a1 h4, b2 h100, c2 (by omega)]; omega
  · rw [if_neg (fun h => by have := hl.1 h; omega), a2 h4, b2 (by omega), c2 (by omega)]; omega

theorem dn_late (y m d : Int) (h : ¬ m ≤ 2) : dnum y m d = 365 * y + (y / 4 - y / 100 + y / 400) + (979 * m - 2919) / 32 + d - 1 + 60 := by
  unfold dnum dn
  rw [if_neg h, years y]
  omega

theorem dn_early (y m d : Int) (h : m ≤ 2) : dnum y m d = 365 * (y - 1) + ((y - 1) / 4 - (y - 1) / 100 + (y - 1) / 400) + (979 * (m + 12) - 2919) / 32 + d - 1 + 60 := by
  unfold dnum dn
  rw [if_pos h]
  have e : y + 10000000 - 1 = (y - 1) + 10000000 := by omega
  rw [e, years (y - 1)]
  omega

theorem months (m : Int) (m0 : 1 ≤ m) (m1 : m ≤ 12) : (m ≤ 2 → (979 * (m + 12) - 2919) / 32 + 60 = dbm m + 366) ∧ (¬ m ≤ 2 → (979 * m - 2919) / 32 + 60 = dbm m + 1) := by
  have hm : m = 1 ∨ m = 2 ∨ m = 3 ∨ m = 4 ∨ m = 5 ∨ m = 6 ∨ m = 7 ∨ m = 8 ∨ m = 9 ∨ m = 10 ∨ m = 11 ∨ m = 12 := by omega
  rcases hm with rfl | rfl | rfl | rfl | rfl | rfl | rfl | rfl | rfl | rfl | rfl | rfl <;> decide

theorem model_eq (y m d : Int) (m0 : 1 ≤ m) (m1 : m ≤ 12) : dnum y m d = model y m d := by
  have hmo := months m m0 m1
  unfold model
  by_cases h : m ≤ 2
  · rw [dn_early y m d h, if_neg (by omega)]
    have h1 := ups y
    have h2 := hmo.1 h
    generalize (979 * (m + 12) - 2919) / 32 = A at *
    generalize dbm m = Bm at *
    generalize (y + 3) / 4 = a at *
    generalize (y + 99) / 100 = b at *
    generalize (y + 399) / 400 = c at *
    generalize (y - 1) / 4 = a' at *
    generalize (y - 1) / 100 = b' at *
    generalize (y - 1) / 400 = c' at *
    omega
  · rw [dn_late y m d h]
    have h1 := leaps y
    have h2 := hmo.2 h
    have h3 : (if 2 < m ∧ leap y = true then (1 : Int) else 0) = if leap y = true then 1 else 0 := by
      by_cases hl : leap y = true
      · rw [if_pos ⟨by omega, hl⟩, if_pos hl]
      · rw [if_neg (fun k => hl k.2), if_neg hl]
    rw [h3]
    generalize (if leap y = true then (1 : Int) else 0) = lp at *
    generalize (979 * m - 2919) / 32 = A at *
    generalize dbm m = Bm at *
    generalize (y + 3) / 4 = a at *
    generalize (y + 99) / 100 = b at *
    generalize (y + 399) / 400 = c at *
    generalize y / 4 = a' at *
    generalize y / 100 = b' at *
    generalize y / 400 = c' at *
    omega

/-- The year's days. -/
theorem model_year (y d : Int) : model (y + 1) 1 d = model y 12 d + 31 := by
  unfold model
  have e1 : y + 1 - 1 = y := by omega
  have h1 := ups (y + 1)
  have h2 := leaps y
  rw [e1] at h1
  rw [if_neg (by omega)]
  have h3 : (if (2 : Int) < 12 ∧ leap y = true then (1 : Int) else 0) = if leap y = true then 1 else 0 := by
    by_cases hl : leap y = true
    · rw [if_pos ⟨by omega, hl⟩, if_pos hl]
    · rw [if_neg (fun k => hl k.2), if_neg hl]
  rw [h3]
  have d1 : dbm 1 = 0 := by decide
  have d12 : dbm 12 = 334 := by decide
  rw [d1, d12]
  generalize (if leap y = true then (1 : Int) else 0) = lp at *
  generalize (y + 3) / 4 = a at *
  generalize (y + 99) / 100 = b at *
  generalize (y + 399) / 400 = c at *
  generalize y / 4 = a' at *
  generalize y / 100 = b' at *
  generalize y / 400 = c' at *
  generalize (y + 1 + 3) / 4 = a'' at *
  generalize (y + 1 + 99) / 100 = b'' at *
  generalize (y + 1 + 399) / 400 = c'' at *
  omega

theorem model_day (y m d : Int) : model y m (d + 1) = model y m d + 1 := by unfold model; omega

/-- The next month begins behind this one's last day. -/
theorem model_month (y m d : Int) (m0 : 1 ≤ m) (m1 : m < 12) : model y (m + 1) d = model y m d + dim y m := by
  have hm : m = 1 ∨ m = 2 ∨ m = 3 ∨ m = 4 ∨ m = 5 ∨ m = 6 ∨ m = 7 ∨ m = 8 ∨ m = 9 ∨ m = 10 ∨ m = 11 := by omega
  unfold model
  rcases hm with rfl | rfl | rfl | rfl | rfl | rfl | rfl | rfl | rfl | rfl | rfl
  all_goals
    simp only [dbm, dim, Int.reduceAdd, Int.reduceLT, Int.reduceEq, or_true, or_false, true_and, false_and, ↓reduceIte]
    cases leap y <;> (try simp only [Bool.false_eq_true, ↓reduceIte]) <;> omega

theorem model_lt (y m d : Int) (h : Valid y m d) : 0 ≤ model y m d ∧ model y m d ≤ 3652424 := by
  obtain ⟨y0, y1, m0, m1, d0, d1⟩ := h
  have hd := dim_le y m
  have hdb : 0 ≤ dbm m ∧ dbm m + dim y m + (if 2 < m ∧ leap y = true then 1 else 0) ≤ 365 + (if leap y = true then 1 else 0) := by
    have hm : m = 1 ∨ m = 2 ∨ m = 3 ∨ m = 4 ∨ m = 5 ∨ m = 6 ∨ m = 7 ∨ m = 8 ∨ m = 9 ∨ m = 10 ∨ m = 11 ∨ m = 12 := by omega
    rcases hm with rfl | rfl | rfl | rfl | rfl | rfl | rfl | rfl | rfl | rfl | rfl | rfl
    all_goals
      simp only [dbm, dim, Int.reduceEq, Int.reduceLT, or_true, or_false, true_and, false_and, ↓reduceIte]
      cases leap y <;> simp only [Bool.false_eq_true, ↓reduceIte] <;> omega
  have hl := leaps y
  unfold model
  have q1 : (y + 99) / 100 ≤ y := by omega
  have q2 : 0 ≤ (y + 3) / 4 := by omega
  have q3 : 0 ≤ (y + 399) / 400 := by omega
  have q4 : y / 4 - y / 100 + y / 400 + 365 * y ≤ 3652059 := by
    by_cases h : y = 9999
    · subst h; decide
    · have a1 : y / 4 ≤ 2499 := by omega
      have a2 : 0 ≤ y / 100 := by omega
      have a3 : y / 400 ≤ 24 := by omega
      omega
  generalize hb : (if 2 < m ∧ leap y = true then (1 : Int) else 0) = lm at *
  have hlm : 0 ≤ lm := by rw [← hb]; split <;> omega
  generalize (if leap y = true then (1 : Int) else 0) = lp at *
  generalize (y + 3) / 4 = a at *
  generalize (y + 99) / 100 = b at *
  generalize (y + 399) / 400 = c at *
  generalize y / 4 = a' at *
  generalize y / 100 = b' at *
  generalize y / 400 = c' at *
  omega

theorem next_day (y m d : Int) (h : Valid y m d) (h1 : d + 1 ≤ dim y m) : Valid y m (d + 1) ∧ model y m (d + 1) = model y m d + 1 :=
  ⟨⟨h.y0, h.y1, h.m0, h.m1, by have := h.d0; omega, h1⟩, model_day y m d⟩

theorem next_month (y m d : Int) (h : Valid y m d) (h1 : dim y m < d + 1) (h2 : m + 1 ≤ 12) : Valid y (m + 1) 1 ∧ model y (m + 1) 1 = model y m d + 1 := by
  obtain ⟨y0, y1, m0, m1, d0, d1⟩ := h
  refine ⟨⟨y0, y1, by omega, h2, by omega, by have := dim_le y (m + 1); omega⟩, ?_⟩
  rw [model_month y m 1 m0 (by omega)]
  unfold model
  omega

theorem next_year (y d : Int) (h : Valid y 12 d) (h1 : dim y 12 < d + 1) (h2 : ¬ (y = 9999 ∧ d = 31)) : Valid (y + 1) 1 1 ∧ model (y + 1) 1 1 = model y 12 d + 1 := by
  obtain ⟨y0, y1, m0, m1, d0, d1⟩ := h
  have hd12 : dim y 12 = 31 := by simp [dim]
  refine ⟨⟨by omega, by omega, by omega, by omega, by omega, by have := dim_le (y + 1) 1; omega⟩, ?_⟩
  rw [model_year]
  unfold model
  omega

/-! ### The bits -/

/-- The fields laid side by side. -/
def lay (D mn sec om f p ht : Nat) : Nat := sec + 64 * mn + 131072 * D + 549755813888 * ht + 1099511627776 * p + 8796093022208 * f + 4503599627370496 * om

theorem or_low (i b a : Nat) (ha : a < 2 ^ i) : (2 ^ i * b) ||| a = 2 ^ i * b + a := (Nat.two_pow_add_eq_or_of_lt ha b).symm

theorem or_mid (i k b a c : Nat) (ha : a < 2 ^ i) (hc : c < 2 ^ k) : (2 ^ (i + k) * b + a) ||| (2 ^ i * c) = 2 ^ (i + k) * b + (2 ^ i * c + a) := by
  have hik : 2 ^ i ≤ 2 ^ (i + k) := Nat.pow_le_pow_right (by decide) (by omega)
  have h2 : 2 ^ i * c + a < 2 ^ (i + k) := by
    rw [Nat.pow_add]
    calc 2 ^ i * c + a < 2 ^ i * c + 2 ^ i := by omega
      _ = 2 ^ i * (c + 1) := by rw [Nat.mul_add, Nat.mul_one]
      _ ≤ 2 ^ i * 2 ^ k := Nat.mul_le_mul_left _ hc
  rw [Nat.two_pow_add_eq_or_of_lt (i := i + k) (b := a) (by omega) b, Nat.or_assoc, Nat.or_comm a, or_low i c a ha, ← Nat.two_pow_add_eq_or_of_lt h2 b]

end Go.Proofs.Qxb6604992a.Plain
