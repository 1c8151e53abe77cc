import Derived.Test.Qxb6617955aCallees
namespace Go.Proofs.Qxb6617955a
open Go.RowKit

theorem civ_lo (y mo d : Int) (h : mo ≤ 2) : Cal.civ y mo d = (y + 400 - 1) / 400 * 146097 + ((y + 400 - 1 - (y + 400 - 1) / 400 * 400) * 365 + (y + 400 - 1 - (y + 400 - 1) / 400 * 400) / 4 - (y + 400 - 1 - (y + 400 - 1) / 400 * 400) / 100 + ((153 * (mo + 9) + 2) / 5 + d - 1)) := by
  unfold Cal.civ; simp only [if_pos h, if_neg (show ¬ 2 < mo by omega)]
theorem civ_hi (y mo d : Int) (h : 2 < mo) : Cal.civ y mo d = (y + 400) / 400 * 146097 + ((y + 400 - (y + 400) / 400 * 400) * 365 + (y + 400 - (y + 400) / 400 * 400) / 4 - (y + 400 - (y + 400) / 400 * 400) / 100 + ((153 * (mo - 3) + 2) / 5 + d - 1)) := by
  unfold Cal.civ; simp only [if_neg (show ¬ mo ≤ 2 by omega), if_pos h]

set_option maxHeartbeats 400000 in
theorem civil_any (y mo d : Int) (w : World) (h0 : 0 ≤ y) (h1 : y ≤ 20000) (h2 : 1 ≤ mo) (h3 : mo ≤ 12) (h4 : 0 ≤ d) (h5 : d ≤ 100) :
    Calls Try.prog 19 #[.int .i64 y, .int .i64 mo, .int .i64 d] w fun e w' => e = .returned (.int .i64 (Cal.civ y mo d)) ∧ w = w' := by
  by_cases c : mo ≤ 2
  · rw [civ_lo y mo d c]
    go_enter Try.func19, Try.ntmps19
    go_wp2
    go_ret
    exact ⟨rfl, rfl⟩
  · rw [civ_hi y mo d (by omega)]
    go_enter Try.func19, Try.ntmps19
    go_wp2
    go_ret
    exact ⟨rfl, rfl⟩

theorem civ_bd (y mo d : Int) (h0 : 0 ≤ y) (h1 : y ≤ 20000) (h2 : 1 ≤ mo) (h3 : mo ≤ 12) (h4 : 0 ≤ d) (h5 : d ≤ 100) : 0 ≤ Cal.civ y mo d ∧ Cal.civ y mo d ≤ 10000000 := by
  rw [Cal.civ_G]; unfold Cal.G; split <;> split <;> omega

theorem mlen_12 (m : Int) (h : m % 12 + 1 = 12) : Cal.mlen m = Cal.civ (m / 12 % 400 + 1) 1 1 - Cal.civ (m / 12 % 400) (m % 12 + 1) 1 := by
  unfold Cal.mlen; rw [if_pos h, if_pos h]
theorem mlen_lt (m : Int) (h : ¬ m % 12 + 1 = 12) : Cal.mlen m = Cal.civ (m / 12 % 400) (m % 12 + 1 + 1) 1 - Cal.civ (m / 12 % 400) (m % 12 + 1) 1 := by
  unfold Cal.mlen; rw [if_neg h, if_neg h]

set_option maxHeartbeats 400000 in
theorem monthLen_any (m : Int) (w : World) (h0 : 0 ≤ m) (h1 : m ≤ 9223372036854775807) :
    Calls Try.prog 10 #[.int .i64 m] w fun e w' => e = .returned (.int .i64 (Cal.dim m)) ∧ w = w' := by
  rw [← Cal.mlen_dim]
  have b1 := civ_bd (m / 12 % 400) (m % 12 + 1) 1 (by omega) (by omega) (by omega) (by omega) (by omega) (by omega)
  by_cases c : m % 12 + 1 = 12
  · have b2 := civ_bd (m / 12 % 400 + 1) 1 1 (by omega) (by omega) (by omega) (by omega) (by omega) (by omega)
    rw [mlen_12 m c]
    have C : Hid (m % 12 + 1 = 12) := c
    have c' : 11 ≤ m % 12 := by omega
    clear c
    go_enter Try.func10, Try.ntmps10
    go_wp2_with (go_at_call 19; refine (civil_any _ _ _ _ (by omega) (by omega) (by omega) (by omega) (by omega) (by omega)).mono ?_; rintro e w' ⟨rfl, rfl⟩)
    go_ret
    exact ⟨rfl, rfl⟩
  · have b2 := civ_bd (m / 12 % 400) (m % 12 + 1 + 1) 1 (by omega) (by omega) (by omega) (by omega) (by omega) (by omega)
    rw [mlen_lt m c]
    go_enter Try.func10, Try.ntmps10
    go_wp2_with (go_at_call 19; refine (civil_any _ _ _ _ (by omega) (by omega) (by omega) (by omega) (by omega) (by omega)).mono ?_; rintro e w' ⟨rfl, rfl⟩)
    go_ret
    exact ⟨rfl, rfl⟩

set_option maxHeartbeats 400000 in
theorem yearLen_any (y : Int) (w : World) (h0 : 0 ≤ y) (h1 : y ≤ 9223372036854775807) :
    Calls Try.prog 13 #[.int .i64 y] w fun e w' => e = .returned (.int .i64 (365 + Cal.lp y)) ∧ w = w' := by
  rw [← Cal.ylen_lp]
  have b1 := civ_bd (y % 400) 1 1 (by omega) (by omega) (by omega) (by omega) (by omega) (by omega)
  have b2 := civ_bd (y % 400 + 1) 1 1 (by omega) (by omega) (by omega) (by omega) (by omega) (by omega)
  unfold Cal.ylen
  go_enter Try.func13, Try.ntmps13
  go_wp2_with (go_at_call 19; refine (civil_any _ _ _ _ (by omega) (by omega) (by omega) (by omega) (by omega) (by omega)).mono ?_; rintro e w' ⟨rfl, rfl⟩)
  go_ret
  exact ⟨rfl, rfl⟩

set_option maxHeartbeats 400000 in
theorem days0_any (m d : Int) (w : World) (h0 : 0 ≤ m) (h1 : m ≤ 120000) (h4 : 0 ≤ d) (h5 : d ≤ 100) :
    Calls Try.prog 14 #[.int .i64 m, .int .i64 d] w fun e w' => e = .returned (.int .i64 (Cal.days0 m d)) ∧ w = w' := by
  have b1 := civ_bd (m / 12) (m % 12 + 1) d (by omega) (by omega) (by omega) (by omega) (by omega) (by omega)
  unfold Cal.days0
  go_enter Try.func14, Try.ntmps14
  go_wp2_with (go_at_call 19; refine (civil_any _ _ _ _ (by omega) (by omega) (by omega) (by omega) (by omega) (by omega)).mono ?_; rintro e w' ⟨rfl, rfl⟩)
  go_ret
  exact ⟨rfl, rfl⟩
end Go.Proofs.Qxb6617955a
