namespace Go.Proofs.Qxb6617955a.Cal

/-- 1 in a leap year of the Gregorian calendar, else 0. -/
def lp (y : Int) : Int := if y % 4 = 0 ∧ (y % 100 ≠ 0 ∨ y % 400 = 0) then 1 else 0
/-- the days of month m (m = year * 12 + month - 1). -/
def dim (m : Int) : Int :=
  if m % 12 = 1 then 28 + lp (m / 12)
  else if m % 12 = 3 ∨ m % 12 = 5 ∨ m % 12 = 8 ∨ m % 12 = 10 then 30 else 31
/-- the days of the years that end ahead of March of year yy. -/
def G (yy : Int) : Int := 365 * yy + yy / 4 - yy / 100 + yy / 400
/-- zzCivil, as the text reckons it. -/
def civ (y mo d : Int) : Int :=
  let yy := if mo ≤ 2 then y + 400 - 1 else y + 400
  let era := yy / 400
  let yoe := yy - era * 400
  let mp := if 2 < mo then mo - 3 else mo + 9
  era * 146097 + (yoe * 365 + yoe / 4 - yoe / 100 + ((153 * mp + 2) / 5 + d - 1))
theorem era_G (yy : Int) : (yy / 400) * 146097 + ((yy - (yy / 400) * 400) * 365 + (yy - (yy / 400) * 400) / 4 - (yy - (yy / 400) * 400) / 100) = G yy := by
  unfold G; omega
theorem civ_G (y mo d : Int) : civ y mo d = G (if mo ≤ 2 then y + 400 - 1 else y + 400) + ((153 * (if 2 < mo then mo - 3 else mo + 9) + 2) / 5 + d - 1) := by
  have := era_G (if mo ≤ 2 then y + 400 - 1 else y + 400)
  unfold civ; simp only; omega
theorem G_succ (y : Int) : G (y + 1) = G y + 365 + lp (y + 1) := by
  unfold G lp; split <;> omega
theorem G_400 (y : Int) : G (y + 400) = G y + 146097 := by unfold G; omega
theorem lp_400 (y : Int) : lp (y + 400) = lp y := by
  unfold lp
  have h1 : (y + 400) % 4 = y % 4 := by omega
  have h2 : (y + 400) % 100 = y % 100 := by omega
  have h3 : (y + 400) % 400 = y % 400 := by omega
  rw [h1, h2, h3]
theorem lp_01 (y : Int) : 0 ≤ lp y ∧ lp y ≤ 1 := by unfold lp; split <;> omega
theorem lp_mod (y : Int) : lp (y % 400) = lp y := by
  unfold lp
  have h1 : (y % 400) % 4 = y % 4 := by omega
  have h2 : (y % 400) % 100 = y % 100 := by omega
  have h3 : (y % 400) % 400 = y % 400 := by omega
  rw [h1, h2, h3]
theorem dim_lo (m : Int) : 28 ≤ dim m ∧ dim m ≤ 31 := by
  have := lp_01 (m / 12); unfold dim; split
  · omega
  · split <;> omega
theorem dim_4800 (m : Int) : dim (m + 4800) = dim m := by
  unfold dim
  have h1 : (m + 4800) % 12 = m % 12 := by omega
  have h2 : (m + 4800) / 12 = m / 12 + 400 := by omega
  rw [h1, h2, lp_400]
/-- the first of the next month is dim days on, by the civil count. -/
theorem civ_next (y mo d : Int) (h1 : 1 ≤ mo) (h2 : mo ≤ 12) :
    civ (if mo = 12 then y + 1 else y) (if mo = 12 then 1 else mo + 1) d = civ y mo d + dim (y * 12 + mo - 1) := by
  have e1 : (y * 12 + mo - 1) % 12 = mo - 1 := by omega
  have e2 : (y * 12 + mo - 1) / 12 = y := by omega
  have g := G_succ (y + 400 - 1)
  have e3 : y + 400 - 1 + 1 = y + 400 := by omega
  rw [e3] at g
  rw [lp_400] at g
  have e4 : y + 1 + 400 - 1 = y + 400 := by omega
  have e5 : lp y = lp y := rfl
  unfold dim
  rw [civ_G, civ_G, e1, e2]
  have : mo = 1 ∨ mo = 2 ∨ mo = 3 ∨ mo = 4 ∨ mo = 5 ∨ mo = 6 ∨ mo = 7 ∨ mo = 8 ∨ mo = 9 ∨ mo = 10 ∨ mo = 11 ∨ mo = 12 := by omega
  rcases this with rfl | rfl | rfl | rfl | rfl | rfl | rfl | rfl | rfl | rfl | rfl | rfl <;> simp [e4] <;> omega
theorem civ_day (y mo d : Int) : civ y mo d = civ y mo 1 + d - 1 := by
  rw [civ_G, civ_G]; omega
/-- zzDays0, as the text reckons it. -/
def days0 (m d : Int) : Int := civ (m / 12) (m % 12 + 1) d - 146037
theorem days0_day (m d : Int) : days0 m d = days0 m 1 + d - 1 := by
  have := civ_day (m / 12) (m % 12 + 1) d
  unfold days0; omega
theorem days0_next (m : Int) : days0 (m + 1) 1 = days0 m 1 + dim m := by
  have h := civ_next (m / 12) (m % 12 + 1) 1 (by omega) (by omega)
  have e0 : m / 12 * 12 + (m % 12 + 1) - 1 = m := by omega
  rw [e0] at h
  unfold days0
  by_cases c : m % 12 + 1 = 12
  · rw [if_pos c, if_pos c] at h
    have e1 : (m + 1) / 12 = m / 12 + 1 := by omega
    have e2 : (m + 1) % 12 + 1 = 1 := by omega
    rw [e1, e2, h]; omega
  · rw [if_neg c, if_neg c] at h
    have e1 : (m + 1) / 12 = m / 12 := by omega
    have e2 : (m + 1) % 12 + 1 = m % 12 + 1 + 1 := by omega
    rw [e1, e2, h]; omega
theorem days0_zero : days0 0 1 = 0 := by decide
theorem days0_4800 (m d : Int) : days0 (m + 4800) d = days0 m d + 146097 := by
  have h1 : (m + 4800) / 12 = m / 12 + 400 := by omega
  have h2 : (m + 4800) % 12 = m % 12 := by omega
  unfold days0; rw [h1, h2, civ_G, civ_G]
  have a := G_400 (m / 12 + 400)
  have b := G_400 (m / 12 + 400 - 1)
  have e1 : m / 12 + 400 + 400 - 1 = m / 12 + 400 - 1 + 400 := by omega
  by_cases c : m % 12 + 1 ≤ 2
  · rw [if_pos c, if_pos c, e1, b]; omega
  · rw [if_neg c, if_neg c, a]; omega
/-- zzMonthLen, as the text reckons it. -/
def mlen (m : Int) : Int :=
  civ (if m % 12 + 1 = 12 then m / 12 % 400 + 1 else m / 12 % 400) (if m % 12 + 1 = 12 then 1 else m % 12 + 1 + 1) 1 - civ (m / 12 % 400) (m % 12 + 1) 1
theorem mlen_dim (m : Int) : mlen m = dim m := by
  unfold mlen
  rw [civ_next (m / 12 % 400) (m % 12 + 1) 1 (by omega) (by omega)]
  have e1 : (m / 12 % 400 * 12 + (m % 12 + 1) - 1) % 12 = m % 12 := by omega
  have e2 : (m / 12 % 400 * 12 + (m % 12 + 1) - 1) / 12 = m / 12 % 400 := by omega
  unfold dim; rw [e1, e2, lp_mod]; omega
/-- zzYearLen, as the text reckons it. -/
def ylen (y : Int) : Int := civ (y % 400 + 1) 1 1 - civ (y % 400) 1 1
theorem ylen_lp (y : Int) : ylen y = 365 + lp y := by
  unfold ylen; rw [civ_G, civ_G]
  have g := G_succ (y % 400 + 400 - 1)
  have e3 : y % 400 + 400 - 1 + 1 = y % 400 + 400 := by omega
  rw [e3, lp_400, lp_mod] at g
  have e4 : y % 400 + 1 + 400 - 1 = y % 400 + 400 := by omega
  simp [e4]; omega
/-- the days of the months from m on, k of them. -/
def sumDim (m : Int) : Nat → Int
  | 0 => 0
  | k + 1 => sumDim m k + dim (m + k)
theorem sumDim_bd (m : Int) : ∀ k : Nat, 0 ≤ sumDim m k ∧ sumDim m k ≤ 31 * k
  | 0 => by simp [sumDim]
  | k + 1 => by have := sumDim_bd m k; have := dim_lo (m + k); simp only [sumDim]; omega
theorem days0_sum (m : Int) : ∀ k : Nat, days0 (m + k) 1 = days0 m 1 + sumDim m k
  | 0 => by simp [sumDim]
  | k + 1 => by
    have h := days0_sum m k
    have n := days0_next (m + k)
    have e : m + ((k + 1 : Nat) : Int) = m + k + 1 := by omega
    rw [e, n, h]; simp only [sumDim]; omega
/-- the twelve months of a year add up to its length. -/
theorem sum_year (y : Int) : sumDim (y * 12) 12 = 365 + lp y := by
  have h := days0_sum (y * 12) 12
  have e : y * 12 + ((12 : Nat) : Int) = (y + 1) * 12 := by omega
  rw [e] at h
  unfold days0 at h
  have e1 : (y + 1) * 12 / 12 = y + 1 := by omega
  have e2 : (y + 1) * 12 % 12 + 1 = 1 := by omega
  have e3 : y * 12 / 12 = y := by omega
  have e4 : y * 12 % 12 + 1 = 1 := by omega
  rw [e1, e2, e3, e4, civ_G, civ_G] at h
  have g := G_succ (y + 400 - 1)
  have e5 : y + 400 - 1 + 1 = y + 400 := by omega
  rw [e5, lp_400] at g
  have e6 : y + 1 + 400 - 1 = y + 400 := by omega
  simp [e6] at h; omega
/-- sinceYear0: the days of the years ahead of y, as the text reckons them. -/
def dby (y : Int) : Int := 365 * y + ((y + 3) / 4 - (y + 99) / 100 + (y + 399) / 400)
theorem dby_days0 (y : Int) : dby y = days0 (y * 12) 1 := by
  have e3 : y * 12 / 12 = y := by omega
  have e4 : y * 12 % 12 + 1 = 1 := by omega
  unfold days0 dby; rw [e3, e4, civ_G]; unfold G; simp; omega
/-- sinceYear0. -/
def since (m d : Int) : Int := dby (m / 12) + sumDim (m / 12 * 12) (m % 12).toNat + d - 1
theorem since_days0 (m d : Int) : since m d = days0 m d := by
  have h := days0_sum (m / 12 * 12) (m % 12).toNat
  have e : m / 12 * 12 + ((m % 12).toNat : Int) = m := by omega
  rw [e] at h
  have := days0_day m d
  have := dby_days0 (m / 12)
  unfold since; omega
theorem days0_mono (m : Int) (k : Nat) : days0 m 1 + 28 * k ≤ days0 (m + k) 1 := by
  induction k with
  | zero => simp
  | succ k ih =>
    have e : m + ((k + 1 : Nat) : Int) = m + k + 1 := by omega
    have := days0_next (m + k); have := dim_lo (m + k); rw [e]; omega
theorem days0_lt (m1 d1 m2 d2 : Int) (h : m1 < m2) (hd1 : d1 ≤ dim m1) (hd2 : 1 ≤ d2) : days0 m1 d1 < days0 m2 d2 := by
  have h1 := days0_day m1 d1
  have h2 := days0_day m2 d2
  have h3 := days0_next m1
  have h4 := days0_mono (m1 + 1) (m2 - (m1 + 1)).toNat
  have e : m1 + 1 + ((m2 - (m1 + 1)).toNat : Int) = m2 := by omega
  rw [e] at h4; omega
theorem days0_nonneg (m d : Int) (hm : 0 ≤ m) (hd : 1 ≤ d) : 0 ≤ days0 m d := by
  have h2 := days0_day m d
  have h4 := days0_mono 0 m.toNat
  have z := days0_zero
  have e : (0 : Int) + (m.toNat : Int) = m := by omega
  rw [e] at h4; omega
end Go.Proofs.Qxb6617955a.Cal
