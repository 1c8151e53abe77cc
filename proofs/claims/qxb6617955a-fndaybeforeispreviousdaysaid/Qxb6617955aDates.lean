import Derived.Test.Qxb6617955aCivil
import Derived.Below
namespace Go.Proofs.Qxb6617955a
open Go.RowKit

theorem dby_bd (y : Int) (h0 : 0 ≤ y) (h1 : y ≤ 10000) : 0 ≤ Cal.dby y ∧ Cal.dby y ≤ 4000000 := by unfold Cal.dby; omega

set_option maxHeartbeats 400000 in
theorem mkDate_any (m d : Int) (w : World) :
    Calls Try.prog 12 #[.int .i64 m, .int .i64 d] w fun e w' => e = .returned (.agg #[.int .i64 m, .int .i64 d]) ∧ Below w.heap.size w w' := by
  go_enter Try.func12, Try.ntmps12
  go_wp2
  exact bodyPost_ret (v := .agg #[.int .i64 m, .int .i64 d]) (by simp [results, Try.results12, go_sem]) rfl ⟨rfl, (Below.refl _ _).alloc (Nat.le_refl _) _⟩

set_option maxHeartbeats 400000 in
theorem dateMonth_any (m d : Int) (w : World) :
    Calls Try.prog 16 #[.agg #[.int .i64 m, .int .i64 d]] w fun e w' => e = .returned (.int .i64 m) ∧ Below w.heap.size w w' := by
  go_enter Try.func16, Try.ntmps16
  go_wp2
  go_ret
  exact ⟨rfl, (Below.refl _ _).alloc (Nat.le_refl _) _⟩

set_option maxHeartbeats 400000 in
theorem dateDay_any (m d : Int) (w : World) :
    Calls Try.prog 17 #[.agg #[.int .i64 m, .int .i64 d]] w fun e w' => e = .returned (.int .i64 d) ∧ Below w.heap.size w w' := by
  go_enter Try.func17, Try.ntmps17
  go_wp2
  go_ret
  exact ⟨rfl, (Below.refl _ _).alloc (Nat.le_refl _) _⟩

set_option maxHeartbeats 400000 in
theorem since_any (m d : Int) (w : World) (h0 : 0 ≤ m) (h1 : m ≤ 119999) (h2 : 0 ≤ d) (h3 : d ≤ 100) :
    Calls Try.prog 20 #[.agg #[.int .i64 m, .int .i64 d]] w fun e w' => e = .returned (.int .i64 (Cal.days0 m d)) ∧ Below w.heap.size w w' := by
  rw [← Cal.since_days0]
  have yb := dby_bd (m / 12) (by omega) (by omega)
  have E : Hid (Cal.since m d = Cal.dby (m / 12) + Cal.sumDim (m / 12 * 12) (m % 12).toNat + d - 1) := rfl
  have D : Hid (Cal.dby (m / 12) = 365 * (m / 12) + ((m / 12 + 3) / 4 - (m / 12 + 99) / 100 + (m / 12 + 399) / 400)) := rfl
  go_enter Try.func20, Try.ntmps20
  go_wp2_with (go_at_call 18; refine (year_any _ _ (by omega) (by omega)).mono ?_; rintro e w' ⟨rfl, rfl⟩)
  go_loop [5, 6] (fun s i => ∃ k : Nat, k ≤ (m % 12).toNat ∧ i = .int .i64 (m / 12 * 12 + k) ∧ s = .int .i64 (Cal.dby (m / 12) + Cal.sumDim (m / 12 * 12) k)) (fun _ i => 120000 - (intOf i).toNat)
  case atStart => exact ⟨0, by omega, by simp, by simp [Cal.sumDim, Cal.dby]⟩
  case round =>
    obtain ⟨k, hk, rfl, rfl⟩ := hrel
    have sb := Cal.sumDim_bd (m / 12 * 12) k
    by_cases hlt : k < (m % 12).toNat
    · have db := Cal.dim_lo (m / 12 * 12 + k)
      go_wp2_with (go_at_call 9; refine (days_any _ _ (by omega) (by omega)).mono ?_; rintro e w' ⟨rfl, rfl⟩)
      go_round
      case rel => exact ⟨k + 1, by omega, by go_num, by simp only [Cal.sumDim]; go_num⟩
      case measure => simp [intOf]; omega
    · obtain rfl : k = (m % 12).toNat := by omega
      go_wp2
      go_ret
      exact ⟨ret_int E.out.symm, (Below.refl _ _).alloc (Nat.le_refl _) _⟩

set_option maxHeartbeats 400000 in
theorem zzSince_any (m d : Int) (w : World) (h0 : 0 ≤ m) (h1 : m ≤ 119999) (h2 : 0 ≤ d) (h3 : d ≤ 100) :
    Calls Try.prog 11 #[.agg #[.int .i64 m, .int .i64 d]] w fun e w' => e = .returned (.int .i64 (Cal.days0 m d)) ∧ Below w.heap.size w w' := by
  go_enter Try.func11, Try.ntmps11
  go_wp2_with (go_at_call 20; refine (since_any _ _ _ h0 h1 h2 h3).mono ?_; rintro e w' ⟨rfl, hb⟩)
  go_ret
  exact ⟨rfl, ((Below.refl _ _).alloc (Nat.le_refl _) _).trans (hb.mono (by simp))⟩

theorem days0_bd (m d : Int) (h0 : 0 ≤ m) (h1 : m ≤ 120000) (h4 : 0 ≤ d) (h5 : d ≤ 100) : -146037 ≤ Cal.days0 m d ∧ Cal.days0 m d ≤ 10000000 := by
  have b1 := civ_bd (m / 12) (m % 12 + 1) d (by omega) (by omega) (by omega) (by omega) (by omega) (by omega)
  unfold Cal.days0; omega

/-! ### worlds in a row -/
theorem below2 {w w1 w2 : World} (p1 : Below w.heap.size w w1) (p2 : Below w1.heap.size w1 w2) : Below w.heap.size w w2 :=
  p1.trans (p2.mono p1.size)
theorem below3 {w w1 w2 w3 : World} (p1 : Below w.heap.size w w1) (p2 : Below w1.heap.size w1 w2) (p3 : Below w2.heap.size w2 w3) : Below w.heap.size w w3 :=
  below2 (below2 p1 p2) p3
theorem below4 {w w1 w2 w3 w4 : World} (p1 : Below w.heap.size w w1) (p2 : Below w1.heap.size w1 w2) (p3 : Below w2.heap.size w2 w3) (p4 : Below w3.heap.size w3 w4) : Below w.heap.size w w4 :=
  below2 (below3 p1 p2 p3) p4
end Go.Proofs.Qxb6617955a
