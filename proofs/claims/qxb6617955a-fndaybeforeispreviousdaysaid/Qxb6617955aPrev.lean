import Derived.Test.Qxb6617955aSteps
import Derived.Deep.Cut
import Derived.Deep.CutRange
namespace Go.Proofs.Qxb6617955a
open Go.RowKit

theorem bcells {W w1 : World} (hb : Below W.heap.size W w1) (b o : Nat) (h : b < W.heap.size) : w1.cell? ⟨b, o, none⟩ = W.cell? ⟨b, o, none⟩ := hb.cell (p := ⟨b, o, none⟩) h

set_option maxHeartbeats 400000 in
/-- sinceYear0 with the world written out: one new block. -/
theorem since_new (m d : Int) (w : World) (h0 : 0 ≤ m) (h1 : m ≤ 119999) (h2 : 0 ≤ d) (h3 : d ≤ 100) :
    Calls Try.prog 20 #[.agg #[.int .i64 m, .int .i64 d]] w fun e w' => e = .returned (.int .i64 (Cal.days0 m d)) ∧ w' = w.alloc (.cells #[.int .i64 m, .int .i64 d] 27) := by
  rw [← Cal.since_days0]
  have yb := dby_bd (m / 12) (by omega) (by omega)
  have E : Hid (Cal.since m d = Cal.dby (m / 12) + Cal.sumDim (m / 12 * 12) (m % 12).toNat + d - 1) := rfl
  go_enter Try.func20, Try.ntmps20
  go_wp2_with (go_at_call 18; refine (year_any _ _ (by omega) (by omega)).mono ?_; rintro e w' ⟨rfl, rfl⟩)
  go_loop [5, 6] (fun s i => ∃ k : Nat, k ≤ (m % 12).toNat ∧ i = .int .i64 (m / 12 * 12 + k) ∧ s = .int .i64 (Cal.dby (m / 12) + Cal.sumDim (m / 12 * 12) k)) (fun _ i => 120000 - (intOf i).toNat)
  case atStart => exact ⟨0, by omega, by simp, by simp [Cal.sumDim, Cal.dby]⟩
  case round =>
    obtain ⟨k, hk, rfl, rfl⟩ := hrel
    have sb := Cal.sumDim_bd (m / 12 * 12) k
    by_cases hlt : k < (m % 12).toNat
    · have db := Cal.dim_lo (m / 12 * 12 + k)
      go_wp2_with (go_at_call 9; refine (days_any _ _ (by omega) (by omega)).mono ?_; rintro e w' ⟨rfl, rfl⟩)
      go_round
      case rel => exact ⟨k + 1, by omega, by go_num, by simp only [Cal.sumDim]; go_num⟩
      case measure => simp [intOf]; omega
    · obtain rfl : k = (m % 12).toNat := by omega
      go_wp2
      go_ret
      exact ⟨ret_int E.out.symm, rfl⟩

set_option maxHeartbeats 400000 in
theorem zzSince_new (m d : Int) (w : World) (h0 : 0 ≤ m) (h1 : m ≤ 119999) (h2 : 0 ≤ d) (h3 : d ≤ 100) :
    Calls Try.prog 11 #[.agg #[.int .i64 m, .int .i64 d]] w fun e w' => e = .returned (.int .i64 (Cal.days0 m d)) ∧ w' = (w.alloc (.cells #[.int .i64 m, .int .i64 d] 27)).alloc (.cells #[.int .i64 m, .int .i64 d] 27) := by
  go_enter Try.func11, Try.ntmps11
  go_wp2_with (go_at_call 20; refine (since_new _ _ _ h0 h1 h2 h3).mono ?_; rintro e w' ⟨rfl, rfl⟩)
  go_ret
  exact ⟨rfl, rfl⟩

/-- what DayBefore answers, as the law meets it. -/
def Answers (a0 a1 pm pd : Int) : Prop := ∀ W, Calls Try.prog 15 #[.agg #[.int .i64 a0, .int .i64 a1]] W fun e w' => e = .returned (.tuple #[.agg #[.int .i64 pm, .int .i64 pd], .bool true]) ∧ Below W.heap.size W w'

set_option maxHeartbeats 1000000 in
set_option maxRecDepth 100000 in
theorem prev_main (a0 a1 pm pd : Int) (w : World) (h0 : 0 ≤ a0) (hM : a0 ≤ 9223372036854775807) (h1 : 1 ≤ a1) (h2 : a1 ≤ Cal.dim a0) (hB : Answers a0 a1 pm pd)
    (k0 : 0 ≤ pm) (k1 : pm ≤ a0) (k2 : 1 ≤ pd) (k3 : pd ≤ Cal.dim pm) (K : Hid (∀ q, q * 4800 ≤ a0 → (a0 = 0 ∨ 1 ≤ a0 - q * 4800) → q * 4800 ≤ pm ∧ Cal.days0 (pm - q * 4800) pd = Cal.days0 (a0 - q * 4800) a1 - 1))
    (z : ((a0 == 0) = true ∧ (a1 == 1) = false) ∨ (a0 == 0) = false) :
    Calls Try.prog 7 #[.int .i64 a0, .int .i64 a1] w fun e w' => e = .returned (.bool true) ∧ Below w.heap.size w w' := by
  have l1 := Cal.dim_lo a0
  have l2 := Cal.dim_lo pm
  go_enter Try.func7, Try.ntmps7
  go_upto_if 24 with (go_at_call 10; refine (monthLen_any _ _ (by omega) (by omega)).mono ?_; rintro e w' ⟨rfl, rfl⟩)
  go_cut [5] from 11 (fun s wc => w = wc ∧ ∃ q, s = .int .i64 (q * 4800) ∧ 0 ≤ q ∧ q * 4800 ≤ a0 ∧ a0 - q * 4800 ≤ 4800 ∧ (a0 = 0 ∨ 1 ≤ a0 - q * 4800))
  case first =>
    clear z
    by_cases c : 0 < a0
    · go_wp2
      go_meet
      case rel => exact ⟨rfl, (a0 - 1) / 4800, rfl, by omega, by omega, by omega, by omega⟩
    · go_wp2
      go_meet
      case rel => exact ⟨rfl, 0, rfl, by omega, by omega, by omega, by omega⟩
  case rest =>
    obtain ⟨rfl, q, rfl, q0, q1, q2, q3⟩ := hcut
    obtain ⟨q4, q5⟩ := K.out q q1 q3
    have e1 : (Cal.days0 (pm - q * 4800) pd != Cal.days0 (a0 - q * 4800) a1 - 1) = false := by rw [bne_eq_false_iff_eq]; exact q5
    have b1 := days0_bd (a0 - q * 4800) a1 (by omega) (by omega) (by omega) (by omega)
    have b2 := days0_bd (pm - q * 4800) pd (by omega) (by omega) (by omega) (by omega)
    clear q5 q3
    go_wp2_with fail
    refine (mkDate_any _ _ _).mono ?_
    rintro e w1 ⟨rfl, p1⟩
    go_wp2_with fail
    refine (hB _).mono ?_
    rintro e w2 ⟨rfl, p2⟩
    go_wp2_with fail
    refine (dateMonth_any _ _ _).mono ?_
    rintro e w3 ⟨rfl, p3⟩
    have x0 := bcells p3 w2.heap.size 0 (by simp)
    have x1 := bcells p3 w2.heap.size 1 (by simp)
    simp at x0 x1
    go_wp2_with fail
    refine (dateDay_any _ _ _).mono ?_
    rintro e w4 ⟨rfl, p4⟩
    have z2 : w2.heap.size < w3.heap.size := by have := p3.size; simp at this; omega
    have y0 := bcells p4 w2.heap.size 0 z2
    have y1 := bcells p4 w2.heap.size 1 z2
    rw [x0] at y0
    rw [x1] at y1
    clear x0 x1
    have z3 : w1.heap.size < w2.heap.size := by have := p2.size; simp at this; omega
    have v0 : w4.cell? ⟨w1.heap.size, 0, none⟩ = some (.int .i64 a0) := by
      rw [bcells p4 _ _ (by omega), bcells p3 _ _ (by simp; omega), World.cell?_alloc_lt _ _ _ (by exact z3), bcells p2 _ _ (by simp)]; simp
    have v1 : w4.cell? ⟨w1.heap.size, 1, none⟩ = some (.int .i64 a1) := by
      rw [bcells p4 _ _ (by omega), bcells p3 _ _ (by simp; omega), World.cell?_alloc_lt _ _ _ (by exact z3), bcells p2 _ _ (by simp)]; simp
    have z4 : w2.heap.size < w4.heap.size := Nat.lt_of_lt_of_le z2 p4.size
    have z5 : w1.heap.size < w4.heap.size := by omega
    have P4 : Below w.heap.size w w4 := by
      have s1 : Below w.heap.size w (w1.alloc (.cells #[.int .i64 a0, .int .i64 a1] 27)) := p1.alloc p1.size _
      have s2 := below2 s1 p2
      exact below3 (s2.alloc s2.size _) p3 p4
    clear p1 p2 p3 p4
    rcases z with ⟨z1, z6⟩ | z1
    · by_cases c : a0 ≤ 119999
      · have q6 : (Cal.days0 pm pd + 1 == Cal.days0 a0 a1) = true := by
          have h := (K.out 0 (by omega) (by omega)).2
          simp at h
          rw [beq_iff_eq]; omega
        have b3 := days0_bd pm pd (by omega) (by omega) (by omega) (by omega)
        have hw : IntKind.i64.wrap (Cal.days0 pm pd + 1) = Cal.days0 pm pd + 1 := IntWalk.i64_in _ (by omega)
        go_wp2_with (first | (go_at_call 10; refine (monthLen_any _ _ (by omega) (by omega)).mono ?_; rintro e w' ⟨rfl, rfl⟩) | (go_at_call 14; refine (days0_any _ _ _ (by omega) (by omega) (by omega) (by omega)).mono ?_; rintro e w' ⟨rfl, rfl⟩))
        go_region_with (go_at_call 11; refine (zzSince_new _ _ _ (by omega) (by omega) (by omega) (by omega)).mono ?_; rintro e w' ⟨rfl, rfl⟩)
        all_goals go_wp2
        all_goals go_ret
        all_goals exact ⟨rfl, by repeat (first | exact P4 | refine Below.drew ?_ | refine Below.alloc ?_ (by have := P4.size; simp; omega) _)⟩
      · go_wp2_with (first | (go_at_call 10; refine (monthLen_any _ _ (by omega) (by omega)).mono ?_; rintro e w' ⟨rfl, rfl⟩) | (go_at_call 14; refine (days0_any _ _ _ (by omega) (by omega) (by omega) (by omega)).mono ?_; rintro e w' ⟨rfl, rfl⟩))
        go_ret
        exact ⟨rfl, P4⟩
    · by_cases c : a0 ≤ 119999
      · have q6 : (Cal.days0 pm pd + 1 == Cal.days0 a0 a1) = true := by
          have h := (K.out 0 (by omega) (by omega)).2
          simp at h
          rw [beq_iff_eq]; omega
        have b3 := days0_bd pm pd (by omega) (by omega) (by omega) (by omega)
        have hw : IntKind.i64.wrap (Cal.days0 pm pd + 1) = Cal.days0 pm pd + 1 := IntWalk.i64_in _ (by omega)
        go_wp2_with (first | (go_at_call 10; refine (monthLen_any _ _ (by omega) (by omega)).mono ?_; rintro e w' ⟨rfl, rfl⟩) | (go_at_call 14; refine (days0_any _ _ _ (by omega) (by omega) (by omega) (by omega)).mono ?_; rintro e w' ⟨rfl, rfl⟩))
        go_region_with (go_at_call 11; refine (zzSince_new _ _ _ (by omega) (by omega) (by omega) (by omega)).mono ?_; rintro e w' ⟨rfl, rfl⟩)
        all_goals go_wp2
        all_goals go_ret
        all_goals exact ⟨rfl, by repeat (first | exact P4 | refine Below.drew ?_ | refine Below.alloc ?_ (by have := P4.size; simp; omega) _)⟩
      · go_wp2_with (first | (go_at_call 10; refine (monthLen_any _ _ (by omega) (by omega)).mono ?_; rintro e w' ⟨rfl, rfl⟩) | (go_at_call 14; refine (days0_any _ _ _ (by omega) (by omega) (by omega) (by omega)).mono ?_; rintro e w' ⟨rfl, rfl⟩))
        go_ret
        exact ⟨rfl, P4⟩
end Go.Proofs.Qxb6617955a
