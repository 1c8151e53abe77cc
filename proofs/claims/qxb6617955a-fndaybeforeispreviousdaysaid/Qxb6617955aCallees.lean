import Derived.Test.Qxb6617955aProg
import Derived.Test.Qxb6617955aCal
import Derived.WalkKit
import Derived.WalkSpells
import Derived.WalkLawsBesides
namespace Go.Proofs.Qxb6617955a
open Go.RowKit

theorem ret_int {k : IntKind} {a b : Int} (h : a = b) : Ending.returned (.int k a) = .returned (.int k b) := by rw [h]

theorem year_any (m : Int) (w : World) (h0 : 0 ≤ m) (h1 : m ≤ 9223372036854775807) :
    Calls Try.prog 18 #[.int .i64 m] w fun e w' => e = .returned (.int .i64 (m / 12)) ∧ w = w' := by
  go_enter Try.func18, Try.ntmps18
  go_wp2
  go_ret
  exact ⟨rfl, rfl⟩

theorem dim_feb (m : Int) (h : m % 12 = 1) : Cal.dim m = 28 + Cal.lp (m / 12) := by simp [Cal.dim, h]
theorem lp_yes (y : Int) (h : y % 4 = 0 ∧ (y % 100 ≠ 0 ∨ y % 400 = 0)) : Cal.lp y = 1 := by rw [Cal.lp, if_pos h]
theorem lp_no (y : Int) (h : ¬ (y % 4 = 0 ∧ (y % 100 ≠ 0 ∨ y % 400 = 0))) : Cal.lp y = 0 := by rw [Cal.lp, if_neg h]

set_option maxHeartbeats 400000 in
theorem days_any (m : Int) (w : World) (h0 : 0 ≤ m) (h1 : m ≤ 9223372036854775807) :
    Calls Try.prog 9 #[.int .i64 m] w fun e w' => e = .returned (.int .i64 (Cal.dim m)) ∧ w = w' := by
  by_cases a1 : m % 12 = 1
  · by_cases b1 : m / 12 % 4 = 0
    · by_cases b2 : m / 12 % 100 = 0
      · by_cases b3 : m / 12 % 400 = 0
        · have e : Cal.dim m = 29 := by rw [dim_feb m a1, lp_yes _ (by omega)]; rfl
          rw [e]; clear e
          go_enter Try.func9, Try.ntmps9
          go_wp2
          go_ret
          exact ⟨rfl, rfl⟩
        · have e : Cal.dim m = 28 := by rw [dim_feb m a1, lp_no _ (by omega)]; rfl
          rw [e]; clear e
          go_enter Try.func9, Try.ntmps9
          go_wp2
          go_ret
          exact ⟨rfl, rfl⟩
      · have e : Cal.dim m = 29 := by rw [dim_feb m a1, lp_yes _ (by omega)]; rfl
        rw [e]; clear e
        go_enter Try.func9, Try.ntmps9
        go_wp2
        go_ret
        exact ⟨rfl, rfl⟩
    · have e : Cal.dim m = 28 := by rw [dim_feb m a1, lp_no _ (by omega)]; rfl
      rw [e]; clear e
      go_enter Try.func9, Try.ntmps9
      go_wp2
      go_ret
      exact ⟨rfl, rfl⟩
  · by_cases a2 : m % 12 = 3 ∨ m % 12 = 5 ∨ m % 12 = 8 ∨ m % 12 = 10
    · have e : Cal.dim m = 30 := by rw [Cal.dim, if_neg a1, if_pos a2]
      rw [e]; clear e
      rcases a2 with a2 | a2 | a2 | a2
      all_goals
        clear a1
        go_enter Try.func9, Try.ntmps9
        go_wp2
        go_ret
        exact ⟨rfl, rfl⟩
    · have e : Cal.dim m = 31 := by rw [Cal.dim, if_neg a1, if_neg a2]
      rw [e]; clear e
      go_enter Try.func9, Try.ntmps9
      go_wp2
      go_ret
      exact ⟨rfl, rfl⟩
end Go.Proofs.Qxb6617955a
