/- The proof of the given statement Rows.FnDaysMatchesCivilCalendarSaid: the frame is the seat's shell, the walk is typed by hand. -/
import Derived.Test.Qxb6617955aRows
import Derived.Test.Qxb6617955aDates
import Derived.WalkKit
import Derived.ProofKit
import Derived.OpenShut
import Derived.ShutString
import Derived.Below
namespace Go.Proofs.Qxb6617955a.fnDaysMatchesCivilCalendar
open Go.ChangeShapes Go.WideShapes Go.ChangeAt Go.RowKit
open Go.ChangeMaps (open_string shut_string)
set_option linter.unusedVariables false      -- a walk need not use every 'w<i>' (that an integer argument fits its kind)

theorem own : ownKnob Try.prog.godebug = none := by kernel_rfl

/-! ### STEP 1: THE WALK: the Go text returns true. 'Below': nothing that was there is written. Part the cases AHEAD of 'go_enter' where a test parts the walk; take each callee by a contract of your own. -/
theorem walk (a0 : Int) (w0 : (Lit.int .i64 a0).wf = true) (w : World) :
    Calls Try.prog 3 #[.int .i64 a0] w fun e w' => e = .returned (.bool true) ∧ Below w.heap.size w w' := by
  have hb := bounds_i64 w0
  obtain ⟨hb1, hb2⟩ := hb
  by_cases c0 : a0 < 0
  · go_enter Try.func3, Try.ntmps3
    go_wp2
    go_ret
    exact ⟨rfl, Below.refl _ _⟩
  have l1 := Cal.dim_lo a0
  by_cases c1 : a0 < 119999
  · have s1 := days0_bd a0 1 (by omega) (by omega) (by omega) (by omega)
    have s2 := days0_bd (a0 + 1) 1 (by omega) (by omega) (by omega) (by omega)
    have q : (Cal.days0 (a0 + 1) 1 - Cal.days0 a0 1 != Cal.dim a0) = false := by
      have := Cal.days0_next a0
      rw [bne_eq_false_iff_eq]; omega
    go_enter Try.func3, Try.ntmps3
    go_wp2_with (first | (go_at_call 9; refine (days_any _ _ (by omega) (by omega)).mono ?_; rintro e w' ⟨rfl, rfl⟩) | (go_at_call 10; refine (monthLen_any _ _ (by omega) (by omega)).mono ?_; rintro e w' ⟨rfl, rfl⟩))
    refine (mkDate_any _ _ _).mono ?_
    rintro e w1 ⟨rfl, p1⟩
    go_wp2_with fail
    refine (zzSince_any _ _ _ (by omega) (by omega) (by omega) (by omega)).mono ?_
    rintro e w2 ⟨rfl, p2⟩
    go_wp2_with fail
    refine (mkDate_any _ _ _).mono ?_
    rintro e w3 ⟨rfl, p3⟩
    go_wp2_with fail
    refine (zzSince_any _ _ _ (by omega) (by omega) (by omega) (by omega)).mono ?_
    rintro e w4 ⟨rfl, p4⟩
    go_wp2
    go_ret
    exact ⟨rfl, below4 p1 p2 p3 p4⟩
  · go_enter Try.func3, Try.ntmps3
    go_wp2_with (first | (go_at_call 9; refine (days_any _ _ (by omega) (by omega)).mono ?_; rintro e w' ⟨rfl, rfl⟩) | (go_at_call 10; refine (monthLen_any _ _ (by omega) (by omega)).mono ?_; rintro e w' ⟨rfl, rfl⟩))
    go_ret
    exact ⟨rfl, Below.refl _ _⟩

/-! ### THE ROW's STEP: WRITTEN OUT: LEAVE IT -/
set_option maxRecDepth 100000 in
theorem lifted (os : Os) (started : os.Started) (H : Type) (enc : TypeId × Value → H) :
    ReturnsInHanded {} Try.checked os 3 .any (Rows.fnDaysMatchesCivilCalendarSpec.pre6 enc Try.prog Try.f3 Rows.fnDaysMatchesCivilCalendarRow.domain false) (Rows.fnDaysMatchesCivilCalendarSpec.post enc Try.prog Try.f3 false true false false) := by
  refine returnsInHanded_of_change (C := Try.checked) own started (by kernel_rfl) Try.func3
    (ChangeSpec.witness6 (enc := enc) (C := Try.checked) false ⟨#[], #[.int .i64 0], []⟩ 8 (by kernel_rfl) (by kernel_rfl) (by kernel_rfl) (by kernel_rfl)) ?_
  intro W base args ds gs before hval0 hW hcnd _
  have hval : ∀ (j : Nat) t v, Try.f3.params[j]? = some t → args[j]? = some v → Value.okWide Try.prog W .any base t v := hval0
  have hW' := hW
  obtain ⟨p, q, hA0, hV, rfl, hfz, hnd⟩ := hW
  have hA : DataW.TrodAll enc Try.prog W 0 (fun _ => true) true Try.f3.params.toList args.toList ds p := hA0
  rw [Try.params3] at hA hval
  obtain ⟨v0, vs0, d0, ds0, p0, q0, hargs, rfl, rfl, h0, r0⟩ := trodAll_cons hA
  obtain ⟨rfl, rfl, rfl⟩ := trodAll_nil r0
  obtain rfl : args = #[v0] := by cases args; simp_all
  obtain ⟨rfl, rfl⟩ := trodVars_none hV
  obtain ⟨a0, rfl, rfl, rfl, w0⟩ := open_int Try.underlying3 (hval 0 3 v0 rfl rfl) h0
  clear hA0 hval0
  simp only [List.append_nil] at hW'
  refine (walk a0 w0 W).mono fun e W' ⟨he, bel⟩ => ?_
  subst he
  exact ⟨_, rfl, _, _, _, [], [], [], hW', (trodAll_cons_mk (shut_bool Try.underlying4 _) trodAll_mk0), (trodAll_cons_mk (shut_int Try.underlying3 w0) trodAll_mk0), rfl, bel.frame _, fun h => by cases h⟩

theorem over : Rows.fnDaysMatchesCivilCalendarRow.holds Try.pinned (OpenSpec.ofChange Rows.fnDaysMatchesCivilCalendarSpec) :=
  OpenClaim.holds_of_wide 3 Try.f3 rfl rfl rfl rfl rfl rfl rfl ⟨rfl, rfl, rfl, rfl, rfl⟩ rfl rfl rfl rfl rfl (by kernel_rfl) Try.func3 (by kernel_rfl)
    (of_decide_eq_true (by kernel_rfl)) (by unfold Func.isWrapper; first | (rw [if_pos (by decide +kernel)]; kernel_rfl) | (rw [if_neg (by decide +kernel)]; exact ⟨rfl, rfl⟩))
    (fun os started H enc _ => lifted os started H enc)

/-- ████ THE STATEMENT ████ -/
theorem proved : Rows.FnDaysMatchesCivilCalendarSaid :=
  over
#print axioms proved
end Go.Proofs.Qxb6617955a.fnDaysMatchesCivilCalendar
