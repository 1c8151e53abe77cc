/- The proof of the given statement Rows.FnDaysYearTotalAndPeriodSaid: the frame is the seat's shell, the walk is typed by hand. -/
import Derived.Test.Qxb6617955aRows
import Derived.Test.Qxb6617955aCivil
import Derived.WalkKit
import Derived.ProofKit
import Derived.OpenShut
import Derived.ShutString
namespace Go.Proofs.Qxb6617955a.fnDaysYearTotalAndPeriod
open Go.ChangeShapes Go.WideShapes Go.ChangeAt Go.RowKit
open Go.ChangeMaps (open_string shut_string)
set_option linter.unusedVariables false      -- a walk need not use every 'w<i>' (that an integer argument fits its kind)

theorem own : ownKnob Try.prog.godebug = none := by kernel_rfl

/-! ### STEP 1: THE WALK: the Go text returns true. 'Grown w w'': the world has at most new blocks (Derived/RowKit3.lean). Part the cases AHEAD of 'go_enter' where a test parts the walk; take each callee by a contract of your own. -/
theorem walk (a0 : Int) (w0 : (Lit.int .i64 a0).wf = true) (w : World) :
    Calls Try.prog 4 #[.int .i64 a0] w fun e w' => e = .returned (.bool true) ∧ Grown w w' := by
  have hb : a0 ≤ 9223372036854775807 ∧ -9223372036854775808 ≤ a0 := by have := bounds_i64 w0; omega
  obtain ⟨hb1, hb2⟩ := hb
  by_cases c0 : a0 < 0
  · go_enter Try.func4, Try.ntmps4
    go_wp2
    go_ret
    exact ⟨rfl, Grown.refl _⟩
  by_cases c1 : 9223372036854771007 < a0
  · go_enter Try.func4, Try.ntmps4
    go_wp2
    go_ret
    exact ⟨rfl, Grown.refl _⟩
  have E1 : Hid (Cal.sumDim (a0 - a0 % 12) 12 = 365 + Cal.lp (a0 / 12)) := by
    have h := Cal.sum_year (a0 / 12)
    have e : a0 / 12 * 12 = a0 - a0 % 12 := by omega
    rw [e] at h; exact h
  have E2 : Hid (Cal.dim (a0 + 4800) = Cal.dim a0) := Cal.dim_4800 a0
  have l1 := Cal.dim_lo a0
  have l2 := Cal.lp_01 (a0 / 12)
  go_enter Try.func4, Try.ntmps4
  go_wp2
  go_loop [4, 5] (fun s i => ∃ k : Nat, k ≤ 12 ∧ i = .int .i64 k ∧ s = .int .i64 (Cal.sumDim (a0 - a0 % 12) k)) (fun _ i => 12 - (intOf i).toNat)
  case atStart => exact ⟨0, by omega, rfl, rfl⟩
  case round =>
    obtain ⟨k, hk, rfl, rfl⟩ := hrel
    have sb := Cal.sumDim_bd (a0 - a0 % 12) k
    by_cases hlt : k < 12
    · have db := Cal.dim_lo (a0 - a0 % 12 + k)
      go_wp2_with (go_at_call 9; refine (days_any _ _ (by omega) (by omega)).mono ?_; rintro e w' ⟨rfl, rfl⟩)
      go_round
      case rel => exact ⟨k + 1, by omega, by go_num, rfl⟩
      case measure => simp [intOf]; omega
    · obtain rfl : k = 12 := by omega
      have q1 : (Cal.sumDim (a0 - a0 % 12) 12 == 365 + Cal.lp (a0 / 12)) = true := by rw [E1.out]; simp
      have q2 : (Cal.dim a0 == Cal.dim (a0 + 4800)) = true := by rw [E2.out]; simp
      go_wp2_with (first | (go_at_call 9; refine (days_any _ _ (by omega) (by omega)).mono ?_; rintro e w' ⟨rfl, rfl⟩) | (go_at_call 13; refine (yearLen_any _ _ (by omega) (by omega)).mono ?_; rintro e w' ⟨rfl, rfl⟩))
      go_ret
      exact ⟨rfl, Grown.refl _⟩

/-! ### THE ROW's STEP: WRITTEN OUT: LEAVE IT -/
set_option maxRecDepth 100000 in
theorem lifted (os : Os) (started : os.Started) (H : Type) (enc : TypeId × Value → H) :
    ReturnsInHanded {} Try.checked os 4 .any (Rows.fnDaysYearTotalAndPeriodSpec.pre6 enc Try.prog Try.f4 Rows.fnDaysYearTotalAndPeriodRow.domain false) (Rows.fnDaysYearTotalAndPeriodSpec.post enc Try.prog Try.f4 false true false false) := by
  refine returnsInHanded_of_change (C := Try.checked) own started (by kernel_rfl) Try.func4
    (ChangeSpec.witness6 (enc := enc) (C := Try.checked) false ⟨#[], #[.int .i64 0], []⟩ 8 (by kernel_rfl) (by kernel_rfl) (by kernel_rfl) (by kernel_rfl)) ?_
  intro W base args ds gs before hval0 hW hcnd _
  have hval : ∀ (j : Nat) t v, Try.f4.params[j]? = some t → args[j]? = some v → Value.okWide Try.prog W .any base t v := hval0
  have hW' := hW
  obtain ⟨p, q, hA0, hV, rfl, hfz, hnd⟩ := hW
  have hA : DataW.TrodAll enc Try.prog W 0 (fun _ => true) true Try.f4.params.toList args.toList ds p := hA0
  rw [Try.params4] at hA hval
  obtain ⟨v0, vs0, d0, ds0, p0, q0, hargs, rfl, rfl, h0, r0⟩ := trodAll_cons hA
  obtain ⟨rfl, rfl, rfl⟩ := trodAll_nil r0
  obtain rfl : args = #[v0] := by cases args; simp_all
  obtain ⟨rfl, rfl⟩ := trodVars_none hV
  obtain ⟨a0, rfl, rfl, rfl, w0⟩ := open_int Try.underlying3 (hval 0 3 v0 rfl rfl) h0
  clear hA0 hval0
  simp only [List.append_nil] at hW'
  refine (walk a0 w0 W).mono fun e W' ⟨he, hg⟩ => ?_
  subst he
  exact ⟨_, rfl, post_of_same (pa := []) (pv := []) hW' (fun _ _ _ => (trodAll_cons_mk (shut_bool Try.underlying4 _) trodAll_mk0)) (fun sp _ => (trodAll_cons_mk (shut_int Try.underlying3 w0) trodAll_mk0)) (fun _ _ => rfl) rfl
    (hg.frame _) hg.2.1 (ok_one (by kernel_rfl) rfl (okWide_bool_mk Try.underlying4 _))⟩

theorem over : Rows.fnDaysYearTotalAndPeriodRow.holds Try.pinned (OpenSpec.ofChange Rows.fnDaysYearTotalAndPeriodSpec) :=
  OpenClaim.holds_of_wide 4 Try.f4 rfl rfl rfl rfl rfl rfl rfl ⟨rfl, rfl, rfl, rfl, rfl⟩ rfl rfl rfl rfl rfl (by kernel_rfl) Try.func4 (by kernel_rfl)
    (of_decide_eq_true (by kernel_rfl)) (by unfold Func.isWrapper; first | (rw [if_pos (by decide +kernel)]; kernel_rfl) | (rw [if_neg (by decide +kernel)]; exact ⟨rfl, rfl⟩))
    (fun os started H enc _ => lifted os started H enc)

/-- ████ THE STATEMENT ████ -/
theorem proved : Rows.FnDaysYearTotalAndPeriodSaid :=
  over
#print axioms proved
end Go.Proofs.Qxb6617955a.fnDaysYearTotalAndPeriod
