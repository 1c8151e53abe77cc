import Derived.Test.Qxb6617955aDates
import Derived.Deep.RegionWith
namespace Go.Proofs.Qxb6617955a
open Go.RowKit

set_option maxHeartbeats 400000 in
theorem before_day (m d : Int) (w : World) (h0 : 1 < d) (h1 : d ≤ 100) :
    Calls Try.prog 15 #[.agg #[.int .i64 m, .int .i64 d]] w fun e w' => e = .returned (.tuple #[.agg #[.int .i64 m, .int .i64 (d - 1)], .bool true]) ∧ Below w.heap.size w w' := by
  go_enter Try.func15, Try.ntmps15
  go_wp2
  exact bodyPost_ret (v := .tuple #[.agg #[.int .i64 m, .int .i64 (d - 1)], .bool true]) (by simp [results, Try.results15, go_sem]) rfl ⟨rfl, ((Below.refl _ _).alloc (Nat.le_refl _) _).alloc (by simp) _⟩

set_option maxHeartbeats 400000 in
theorem before_none (m d : Int) (w : World) (h0 : ¬ 1 < d) (h1 : ¬ 0 < m) :
    Calls Try.prog 15 #[.agg #[.int .i64 m, .int .i64 d]] w fun e w' => e = .returned (.tuple #[.agg #[.int .i64 0, .int .i64 0], .bool false]) ∧ Below w.heap.size w w' := by
  go_enter Try.func15, Try.ntmps15
  go_wp2
  exact bodyPost_ret (v := .tuple #[.agg #[.int .i64 0, .int .i64 0], .bool false]) (by simp [results, Try.results15, go_sem]) rfl ⟨rfl, ((Below.refl _ _).alloc (Nat.le_refl _) _).alloc (by simp) _⟩

set_option maxHeartbeats 400000 in
theorem before_month (m d : Int) (w : World) (h0 : ¬ 1 < d) (h1 : 0 < m) (h2 : m ≤ 9223372036854775807) :
    Calls Try.prog 15 #[.agg #[.int .i64 m, .int .i64 d]] w fun e w' => e = .returned (.tuple #[.agg #[.int .i64 (m - 1), .int .i64 (Cal.dim (m - 1))], .bool true]) ∧ Below w.heap.size w w' := by
  have hw : IntKind.i64.wrap (m - 1) = m - 1 := IntWalk.i64_in _ (by omega)
  go_enter Try.func15, Try.ntmps15
  go_wp2
  go_region_with (go_at_call 9; refine (days_any _ _ (by omega) (by omega)).mono ?_; rintro e w' ⟨rfl, rfl⟩)
  all_goals go_wp2
  all_goals
    exact bodyPost_ret (v := .tuple #[.agg #[.int .i64 (m - 1), .int .i64 (Cal.dim (m - 1))], .bool true]) (by simp [results, Try.results15, go_sem]) rfl ⟨rfl, (((Below.refl _ _).alloc (Nat.le_refl _) _).alloc (by simp) _).drew⟩
end Go.Proofs.Qxb6617955a
