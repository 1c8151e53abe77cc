import Derived.Test.Qxb6617955aBefore
namespace Go.Proofs.Qxb6617955a
open Go.RowKit

theorem lp_shift (y q : Int) : Cal.lp (y - 400 * q) = Cal.lp y := by
  unfold Cal.lp
  have h1 : (y - 400 * q) % 4 = y % 4 := by omega
  have h2 : (y - 400 * q) % 100 = y % 100 := by omega
  have h3 : (y - 400 * q) % 400 = y % 400 := by omega
  rw [h1, h2, h3]
theorem dim_shift (m q : Int) : Cal.dim (m - q * 4800) = Cal.dim m := by
  unfold Cal.dim
  have h1 : (m - q * 4800) % 12 = m % 12 := by omega
  have h2 : (m - q * 4800) / 12 = m / 12 - 400 * q := by omega
  rw [h1, h2, lp_shift]
/-- the day before inside a month. -/
theorem back_day (m d : Int) : Cal.days0 m (d - 1) = Cal.days0 m d - 1 := by
  have h1 := Cal.days0_day m d
  have h2 := Cal.days0_day m (d - 1)
  omega
/-- the day before the first of a month, counted from a year that is a multiple of 400. -/
theorem back_month (m q : Int) : Cal.days0 (m - 1 - q * 4800) (Cal.dim (m - 1)) = Cal.days0 (m - q * 4800) 1 - 1 := by
  have h1 := Cal.days0_next (m - 1 - q * 4800)
  have h2 := Cal.days0_day (m - 1 - q * 4800) (Cal.dim (m - 1))
  have h3 := dim_shift (m - 1) q
  have e : m - 1 - q * 4800 + 1 = m - q * 4800 := by omega
  rw [e] at h1
  omega

/-! ### the loop of FnDayBeforeWalksBack -/
/-- behind k steps back from day number st (counted from month q * 4800) the date is cm, cd. -/
def Good (q mo st : Int) (k : Nat) (cm cd : Int) : Prop :=
  q * 4800 ≤ cm ∧ cm ≤ mo ∧ 1 ≤ cd ∧ cd ≤ Cal.dim cm ∧ Cal.days0 (cm - q * 4800) cd = st - k

theorem good_zero {q mo d : Int} (h1 : q * 4800 ≤ mo) (h2 : 1 ≤ d) (h3 : d ≤ Cal.dim mo) : Good q mo (Cal.days0 (mo - q * 4800) d) 0 mo d :=
  ⟨h1, by omega, h2, h3, by simp⟩
theorem good_le {q mo st : Int} {k : Nat} {cm cd : Int} (h : Good q mo st k cm cd) : (k : Int) ≤ st := by
  obtain ⟨h1, h2, h3, h4, h5⟩ := h
  have := Cal.days0_nonneg (cm - q * 4800) cd (by omega) h3
  omega
theorem good_day {q mo st : Int} {k : Nat} {cm cd : Int} (h : Good q mo st k cm cd) (hd : 1 < cd) : Good q mo st (k + 1) cm (cd - 1) := by
  obtain ⟨h1, h2, h3, h4, h5⟩ := h
  have := back_day (cm - q * 4800) cd
  exact ⟨h1, h2, by omega, by omega, by omega⟩
theorem good_month {q mo st : Int} {k : Nat} {cm cd : Int} (h : Good q mo st k cm cd) (hd : ¬ 1 < cd) (hk : (k : Int) < st) : Good q mo st (k + 1) (cm - 1) (Cal.dim (cm - 1)) := by
  obtain ⟨h1, h2, h3, h4, h5⟩ := h
  have e : cd = 1 := by omega
  subst e
  have hb := back_month cm q
  have hl := Cal.dim_lo (cm - 1)
  refine ⟨?_, by omega, by omega, Int.le_refl _, by omega⟩
  by_cases c : q * 4800 = cm
  · have z := Cal.days0_zero
    have e0 : cm - q * 4800 = 0 := by omega
    rw [e0] at h5; omega
  · omega
theorem good_first {q mo st : Int} {k : Nat} {cm cd : Int} (h : Good q mo st k cm cd) (hq : 0 ≤ q) (hd : ¬ 1 < cd) (hm : ¬ 0 < cm) : (k : Int) = st := by
  obtain ⟨h1, h2, h3, h4, h5⟩ := h
  have z := Cal.days0_zero
  have e0 : cm - q * 4800 = 0 := by omega
  have e1 : cd = 1 := by omega
  rw [e0, e1] at h5; omega
end Go.Proofs.Qxb6617955a
