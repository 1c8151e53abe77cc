import Derived.Test.Qxb6617955aPrev
namespace Go.Proofs.Qxb6617955a
open Go.RowKit

set_option maxHeartbeats 1000000 in
set_option maxRecDepth 100000 in
/-- 0000-01-01 itself. -/
theorem prev_first (w : World) : Calls Try.prog 7 #[.int .i64 0, .int .i64 1] w fun e w' => e = .returned (.bool true) ∧ Below w.heap.size w w' := by
  have l1 := Cal.dim_lo 0
  go_enter Try.func7, Try.ntmps7
  go_wp2_with (go_at_call 10; refine (monthLen_any _ _ (by omega) (by omega)).mono ?_; rintro e w' ⟨rfl, rfl⟩)
  refine (mkDate_any _ _ _).mono ?_
  rintro e w1 ⟨rfl, p1⟩
  go_wp2_with fail
  refine (before_none _ _ _ (by omega) (by omega)).mono ?_
  rintro e w2 ⟨rfl, p2⟩
  go_wp2_with fail
  refine (dateMonth_any _ _ _).mono ?_
  rintro e w3 ⟨rfl, p3⟩
  have x0 := bcells p3 w2.heap.size 0 (by simp)
  have x1 := bcells p3 w2.heap.size 1 (by simp)
  simp at x0 x1
  go_wp2_with fail
  refine (dateDay_any _ _ _).mono ?_
  rintro e w4 ⟨rfl, p4⟩
  have P4 : Below w.heap.size w w4 := by
    have s1 : Below w.heap.size w (w1.alloc (.cells #[.int .i64 0, .int .i64 1] 27)) := p1.alloc p1.size _
    have s2 := below2 s1 p2
    exact below3 (s2.alloc s2.size _) p3 p4
  clear p1 p2 p3 p4
  go_wp2
  go_ret
  exact ⟨rfl, P4⟩

theorem prev_day (a0 a1 : Int) (w : World) (h0 : 0 ≤ a0) (hM : a0 ≤ 9223372036854775807) (h1 : 1 < a1) (h2 : a1 ≤ Cal.dim a0) :
    Calls Try.prog 7 #[.int .i64 a0, .int .i64 a1] w fun e w' => e = .returned (.bool true) ∧ Below w.heap.size w w' := by
  have l1 := Cal.dim_lo a0
  refine prev_main a0 a1 a0 (a1 - 1) w h0 hM (by omega) h2 (fun W => before_day a0 a1 W h1 (by omega)) h0 (Int.le_refl _) (by omega) (by omega) (fun q hq _ => ⟨hq, back_day _ _⟩) ?_
  by_cases z : a0 = 0
  · exact .inl ⟨beq_iff_eq.2 z, beq_eq_false_iff_ne.2 (by omega)⟩
  · exact .inr (beq_eq_false_iff_ne.2 z)
theorem prev_month (a0 : Int) (w : World) (h0 : 0 < a0) (hM : a0 ≤ 9223372036854775807) :
    Calls Try.prog 7 #[.int .i64 a0, .int .i64 1] w fun e w' => e = .returned (.bool true) ∧ Below w.heap.size w w' := by
  have l1 := Cal.dim_lo a0
  have l2 := Cal.dim_lo (a0 - 1)
  refine prev_main a0 1 (a0 - 1) (Cal.dim (a0 - 1)) w (by omega) hM (by omega) (by omega) (fun W => before_month a0 1 W (by omega) h0 hM) (by omega) (by omega) (by omega) (Int.le_refl _) (fun q hq hq2 => ⟨by omega, back_month a0 q⟩) (.inr (beq_eq_false_iff_ne.2 (by omega)))
end Go.Proofs.Qxb6617955a
