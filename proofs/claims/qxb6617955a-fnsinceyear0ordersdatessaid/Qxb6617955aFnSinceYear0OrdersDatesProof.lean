/- The proof of the given statement Rows.FnSinceYear0OrdersDatesSaid: the frame is the seat's shell, the walk is typed by hand. -/
import Derived.Test.Qxb6617955aRows
import Derived.Test.Qxb6617955aDates
import Derived.WalkKit
import Derived.ProofKit
import Derived.OpenShut
import Derived.ShutString
import Derived.Below
namespace Go.Proofs.Qxb6617955a.fnSinceYear0OrdersDates
open Go.ChangeShapes Go.WideShapes Go.ChangeAt Go.RowKit
open Go.ChangeMaps (open_string shut_string)
set_option linter.unusedVariables false      -- a walk need not use every 'w<i>' (that an integer argument fits its kind)

theorem own : ownKnob Try.prog.godebug = none := by kernel_rfl

set_option maxHeartbeats 1000000 in
/-- two valid dates up to 9999-12-31: the way on which every test is passed. -/
theorem orders_main (a0 a1 a2 a3 : Int) (w : World) (h0 : 0 ≤ a0) (h1 : a0 ≤ 119999) (h2 : 0 ≤ a2) (h3 : a2 ≤ 119999) (h4 : 1 ≤ a1) (h5 : a1 ≤ Cal.dim a0) (h6 : 1 ≤ a3) (h7 : a3 ≤ Cal.dim a2)
    (s1 : -146037 ≤ Cal.days0 a0 a1 ∧ Cal.days0 a0 a1 ≤ 10000000) (s2 : -146037 ≤ Cal.days0 a2 a3 ∧ Cal.days0 a2 a3 ≤ 10000000)
    (h : (a0 < a2 ∧ Cal.days0 a0 a1 < Cal.days0 a2 a3) ∨ (a0 = a2 ∧ a1 < a3 ∧ Cal.days0 a0 a1 < Cal.days0 a2 a3) ∨ (a0 = a2 ∧ a1 = a3) ∨ (a0 = a2 ∧ a3 < a1 ∧ Cal.days0 a2 a3 < Cal.days0 a0 a1) ∨ (a2 < a0 ∧ Cal.days0 a2 a3 < Cal.days0 a0 a1)) :
    Calls Try.prog 6 #[.int .i64 a0, .int .i64 a1, .int .i64 a2, .int .i64 a3] w fun e w' => e = .returned (.bool true) ∧ Below w.heap.size w w' := by
  have l1 := Cal.dim_lo a0
  have l2 := Cal.dim_lo a2
  rcases h with ⟨h, o⟩ | ⟨rfl, h, o⟩ | ⟨rfl, rfl⟩ | ⟨rfl, h, o⟩ | ⟨h, o⟩
  · have e2 : (a0 == a2) = false := beq_eq_false_iff_ne.2 (by omega)
    have e3 : (Cal.days0 a0 a1 == Cal.days0 a2 a3) = false := beq_eq_false_iff_ne.2 (by omega)
    go_enter Try.func6, Try.ntmps6
    go_wp2_with (go_at_call 10; refine (monthLen_any _ _ (by omega) (by omega)).mono ?_; rintro e w' ⟨rfl, rfl⟩)
    refine (mkDate_any _ _ _).mono ?_
    rintro e u1 ⟨rfl, p1⟩
    go_wp2_with fail
    refine (zzSince_any _ _ _ (by omega) (by omega) (by omega) (by omega)).mono ?_
    rintro e u2 ⟨rfl, p2⟩
    go_wp2_with fail
    refine (mkDate_any _ _ _).mono ?_
    rintro e u3 ⟨rfl, p3⟩
    go_wp2_with fail
    refine (zzSince_any _ _ _ (by omega) (by omega) (by omega) (by omega)).mono ?_
    rintro e u4 ⟨rfl, p4⟩
    go_wp2_with (go_at_call 14; refine (days0_any _ _ _ (by omega) (by omega) (by omega) (by omega)).mono ?_; rintro e w' ⟨rfl, rfl⟩)
    go_ret
    exact ⟨by simp, below4 p1 p2 p3 p4⟩
  · have e2 : (a1 == a3) = false := beq_eq_false_iff_ne.2 (by omega)
    have e3 : (Cal.days0 a0 a1 == Cal.days0 a0 a3) = false := beq_eq_false_iff_ne.2 (by omega)
    go_enter Try.func6, Try.ntmps6
    go_wp2_with (go_at_call 10; refine (monthLen_any _ _ (by omega) (by omega)).mono ?_; rintro e w' ⟨rfl, rfl⟩)
    refine (mkDate_any _ _ _).mono ?_
    rintro e u1 ⟨rfl, p1⟩
    go_wp2_with fail
    refine (zzSince_any _ _ _ (by omega) (by omega) (by omega) (by omega)).mono ?_
    rintro e u2 ⟨rfl, p2⟩
    go_wp2_with fail
    refine (mkDate_any _ _ _).mono ?_
    rintro e u3 ⟨rfl, p3⟩
    go_wp2_with fail
    refine (zzSince_any _ _ _ (by omega) (by omega) (by omega) (by omega)).mono ?_
    rintro e u4 ⟨rfl, p4⟩
    go_wp2_with (go_at_call 14; refine (days0_any _ _ _ (by omega) (by omega) (by omega) (by omega)).mono ?_; rintro e w' ⟨rfl, rfl⟩)
    go_ret
    exact ⟨by simp, below4 p1 p2 p3 p4⟩
  · go_enter Try.func6, Try.ntmps6
    go_wp2_with (go_at_call 10; refine (monthLen_any _ _ (by omega) (by omega)).mono ?_; rintro e w' ⟨rfl, rfl⟩)
    refine (mkDate_any _ _ _).mono ?_
    rintro e u1 ⟨rfl, p1⟩
    go_wp2_with fail
    refine (zzSince_any _ _ _ (by omega) (by omega) (by omega) (by omega)).mono ?_
    rintro e u2 ⟨rfl, p2⟩
    go_wp2_with fail
    refine (mkDate_any _ _ _).mono ?_
    rintro e u3 ⟨rfl, p3⟩
    go_wp2_with fail
    refine (zzSince_any _ _ _ (by omega) (by omega) (by omega) (by omega)).mono ?_
    rintro e u4 ⟨rfl, p4⟩
    go_wp2_with (go_at_call 14; refine (days0_any _ _ _ (by omega) (by omega) (by omega) (by omega)).mono ?_; rintro e w' ⟨rfl, rfl⟩)
    go_ret
    exact ⟨by simp, below4 p1 p2 p3 p4⟩
  · have e1 : (a1 < a3) = False := eq_false (by omega)
    have e2 : (a1 == a3) = false := beq_eq_false_iff_ne.2 (by omega)
    have e4 : (Cal.days0 a0 a1 < Cal.days0 a0 a3) = False := eq_false (by omega)
    have e3 : (Cal.days0 a0 a1 == Cal.days0 a0 a3) = false := beq_eq_false_iff_ne.2 (by omega)
    go_enter Try.func6, Try.ntmps6
    go_wp2_with (go_at_call 10; refine (monthLen_any _ _ (by omega) (by omega)).mono ?_; rintro e w' ⟨rfl, rfl⟩)
    refine (mkDate_any _ _ _).mono ?_
    rintro e u1 ⟨rfl, p1⟩
    go_wp2_with fail
    refine (zzSince_any _ _ _ (by omega) (by omega) (by omega) (by omega)).mono ?_
    rintro e u2 ⟨rfl, p2⟩
    go_wp2_with fail
    refine (mkDate_any _ _ _).mono ?_
    rintro e u3 ⟨rfl, p3⟩
    go_wp2_with fail
    refine (zzSince_any _ _ _ (by omega) (by omega) (by omega) (by omega)).mono ?_
    rintro e u4 ⟨rfl, p4⟩
    go_wp2_with (go_at_call 14; refine (days0_any _ _ _ (by omega) (by omega) (by omega) (by omega)).mono ?_; rintro e w' ⟨rfl, rfl⟩)
    go_ret
    exact ⟨by simp, below4 p1 p2 p3 p4⟩
  · have e1 : (a0 < a2) = False := eq_false (by omega)
    have e2 : (a0 == a2) = false := beq_eq_false_iff_ne.2 (by omega)
    have e4 : (Cal.days0 a0 a1 < Cal.days0 a2 a3) = False := eq_false (by omega)
    have e3 : (Cal.days0 a0 a1 == Cal.days0 a2 a3) = false := beq_eq_false_iff_ne.2 (by omega)
    go_enter Try.func6, Try.ntmps6
    go_wp2_with (go_at_call 10; refine (monthLen_any _ _ (by omega) (by omega)).mono ?_; rintro e w' ⟨rfl, rfl⟩)
    refine (mkDate_any _ _ _).mono ?_
    rintro e u1 ⟨rfl, p1⟩
    go_wp2_with fail
    refine (zzSince_any _ _ _ (by omega) (by omega) (by omega) (by omega)).mono ?_
    rintro e u2 ⟨rfl, p2⟩
    go_wp2_with fail
    refine (mkDate_any _ _ _).mono ?_
    rintro e u3 ⟨rfl, p3⟩
    go_wp2_with fail
    refine (zzSince_any _ _ _ (by omega) (by omega) (by omega) (by omega)).mono ?_
    rintro e u4 ⟨rfl, p4⟩
    go_wp2_with (go_at_call 14; refine (days0_any _ _ _ (by omega) (by omega) (by omega) (by omega)).mono ?_; rintro e w' ⟨rfl, rfl⟩)
    go_ret
    exact ⟨by simp, below4 p1 p2 p3 p4⟩

/-! ### STEP 1: THE WALK: the Go text returns true. 'Below': nothing that was there is written. Part the cases AHEAD of 'go_enter' where a test parts the walk; take each callee by a contract of your own. -/
theorem walk (a0 : Int) (a1 : Int) (a2 : Int) (a3 : Int) (w0 : (Lit.int .i64 a0).wf = true) (w1 : (Lit.int .i64 a1).wf = true) (w2 : (Lit.int .i64 a2).wf = true) (w3 : (Lit.int .i64 a3).wf = true) (w : World) :
    Calls Try.prog 6 #[.int .i64 a0, .int .i64 a1, .int .i64 a2, .int .i64 a3] w fun e w' => e = .returned (.bool true) ∧ Below w.heap.size w w' := by
  have hb := bounds_i64 w0
  obtain ⟨hb1, hb2⟩ := hb
  have hb := bounds_i64 w1
  obtain ⟨hb3, hb4⟩ := hb
  have hb := bounds_i64 w2
  obtain ⟨hb5, hb6⟩ := hb
  have hb := bounds_i64 w3
  obtain ⟨hb7, hb8⟩ := hb
  by_cases c0 : a0 < 0
  · go_enter Try.func6, Try.ntmps6
    go_wp2
    go_ret
    exact ⟨rfl, Below.refl _ _⟩
  by_cases c1 : 119999 < a0
  · go_enter Try.func6, Try.ntmps6
    go_wp2
    go_ret
    exact ⟨rfl, Below.refl _ _⟩
  by_cases c2 : a2 < 0
  · go_enter Try.func6, Try.ntmps6
    go_wp2
    go_ret
    exact ⟨rfl, Below.refl _ _⟩
  by_cases c3 : 119999 < a2
  · go_enter Try.func6, Try.ntmps6
    go_wp2
    go_ret
    exact ⟨rfl, Below.refl _ _⟩
  have l1 := Cal.dim_lo a0
  have l2 := Cal.dim_lo a2
  by_cases c4 : a1 < 1
  · go_enter Try.func6, Try.ntmps6
    go_wp2
    go_ret
    exact ⟨rfl, Below.refl _ _⟩
  by_cases c5 : Cal.dim a0 < a1
  · go_enter Try.func6, Try.ntmps6
    go_wp2_with (go_at_call 10; refine (monthLen_any _ _ (by omega) (by omega)).mono ?_; rintro e w' ⟨rfl, rfl⟩)
    go_ret
    exact ⟨rfl, Below.refl _ _⟩
  by_cases c6 : a3 < 1
  · go_enter Try.func6, Try.ntmps6
    go_wp2_with (go_at_call 10; refine (monthLen_any _ _ (by omega) (by omega)).mono ?_; rintro e w' ⟨rfl, rfl⟩)
    go_ret
    exact ⟨rfl, Below.refl _ _⟩
  by_cases c7 : Cal.dim a2 < a3
  · go_enter Try.func6, Try.ntmps6
    go_wp2_with (go_at_call 10; refine (monthLen_any _ _ (by omega) (by omega)).mono ?_; rintro e w' ⟨rfl, rfl⟩)
    go_ret
    exact ⟨rfl, Below.refl _ _⟩
  have s1 := days0_bd a0 a1 (by omega) (by omega) (by omega) (by omega)
  have s2 := days0_bd a2 a3 (by omega) (by omega) (by omega) (by omega)
  rcases Int.lt_trichotomy a0 a2 with h | h | h
  · have o := Cal.days0_lt a0 a1 a2 a3 h (by omega) (by omega)
    exact orders_main a0 a1 a2 a3 w (by omega) (by omega) (by omega) (by omega) (by omega) (by omega) (by omega) (by omega) s1 s2 (.inl ⟨h, o⟩)
  · subst h
    have e1 := Cal.days0_day a0 a1
    have e2 := Cal.days0_day a0 a3
    rcases Int.lt_trichotomy a1 a3 with k | k | k
    · exact orders_main a0 a1 a0 a3 w (by omega) (by omega) (by omega) (by omega) (by omega) (by omega) (by omega) (by omega) s1 s2 (.inr (.inl ⟨rfl, k, by omega⟩))
    · subst k
      exact orders_main a0 a1 a0 a1 w (by omega) (by omega) (by omega) (by omega) (by omega) (by omega) (by omega) (by omega) s1 s2 (.inr (.inr (.inl ⟨rfl, rfl⟩)))
    · exact orders_main a0 a1 a0 a3 w (by omega) (by omega) (by omega) (by omega) (by omega) (by omega) (by omega) (by omega) s1 s2 (.inr (.inr (.inr (.inl ⟨rfl, k, by omega⟩))))
  · have o := Cal.days0_lt a2 a3 a0 a1 h (by omega) (by omega)
    exact orders_main a0 a1 a2 a3 w (by omega) (by omega) (by omega) (by omega) (by omega) (by omega) (by omega) (by omega) s1 s2 (.inr (.inr (.inr (.inr ⟨h, o⟩))))

/-! ### THE ROW's STEP: WRITTEN OUT: LEAVE IT -/
set_option maxRecDepth 100000 in
theorem lifted (os : Os) (started : os.Started) (H : Type) (enc : TypeId × Value → H) :
    ReturnsInHanded {} Try.checked os 6 .any (Rows.fnSinceYear0OrdersDatesSpec.pre6 enc Try.prog Try.f6 Rows.fnSinceYear0OrdersDatesRow.domain false) (Rows.fnSinceYear0OrdersDatesSpec.post enc Try.prog Try.f6 false true false false) := by
  refine returnsInHanded_of_change (C := Try.checked) own started (by kernel_rfl) Try.func6
    (ChangeSpec.witness6 (enc := enc) (C := Try.checked) false ⟨#[], #[.int .i64 0, .int .i64 0, .int .i64 0, .int .i64 0], []⟩ 8 (by kernel_rfl) (by kernel_rfl) (by kernel_rfl) (by kernel_rfl)) ?_
  intro W base args ds gs before hval0 hW hcnd _
  have hval : ∀ (j : Nat) t v, Try.f6.params[j]? = some t → args[j]? = some v → Value.okWide Try.prog W .any base t v := hval0
  have hW' := hW
  obtain ⟨p, q, hA0, hV, rfl, hfz, hnd⟩ := hW
  have hA : DataW.TrodAll enc Try.prog W 0 (fun _ => true) true Try.f6.params.toList args.toList ds p := hA0
  rw [Try.params6] at hA hval
  obtain ⟨v0, vs0, d0, ds0, p0, q0, hargs, rfl, rfl, h0, r0⟩ := trodAll_cons hA
  obtain ⟨v1, vs1, d1, ds1, p1, q1, rfl, rfl, rfl, h1, r1⟩ := trodAll_cons r0
  obtain ⟨v2, vs2, d2, ds2, p2, q2, rfl, rfl, rfl, h2, r2⟩ := trodAll_cons r1
  obtain ⟨v3, vs3, d3, ds3, p3, q3, rfl, rfl, rfl, h3, r3⟩ := trodAll_cons r2
  obtain ⟨rfl, rfl, rfl⟩ := trodAll_nil r3
  obtain rfl : args = #[v0, v1, v2, v3] := by cases args; simp_all
  obtain ⟨rfl, rfl⟩ := trodVars_none hV
  obtain ⟨a0, rfl, rfl, rfl, w0⟩ := open_int Try.underlying3 (hval 0 3 v0 rfl rfl) h0
  obtain ⟨a1, rfl, rfl, rfl, w1⟩ := open_int Try.underlying3 (hval 1 3 v1 rfl rfl) h1
  obtain ⟨a2, rfl, rfl, rfl, w2⟩ := open_int Try.underlying3 (hval 2 3 v2 rfl rfl) h2
  obtain ⟨a3, rfl, rfl, rfl, w3⟩ := open_int Try.underlying3 (hval 3 3 v3 rfl rfl) h3
  clear hA0 hval0
  simp only [List.append_nil] at hW'
  refine (walk a0 a1 a2 a3 w0 w1 w2 w3 W).mono fun e W' ⟨he, bel⟩ => ?_
  subst he
  exact ⟨_, rfl, _, _, _, [], [], [], hW', (trodAll_cons_mk (shut_bool Try.underlying4 _) trodAll_mk0), (trodAll_cons_mk (shut_int Try.underlying3 w0) (trodAll_cons_mk (shut_int Try.underlying3 w1) (trodAll_cons_mk (shut_int Try.underlying3 w2) (trodAll_cons_mk (shut_int Try.underlying3 w3) trodAll_mk0)))), rfl, bel.frame _, fun h => by cases h⟩

theorem over : Rows.fnSinceYear0OrdersDatesRow.holds Try.pinned (OpenSpec.ofChange Rows.fnSinceYear0OrdersDatesSpec) :=
  OpenClaim.holds_of_wide 6 Try.f6 rfl rfl rfl rfl rfl rfl rfl ⟨rfl, rfl, rfl, rfl, rfl⟩ rfl rfl rfl rfl rfl (by kernel_rfl) Try.func6 (by kernel_rfl)
    (of_decide_eq_true (by kernel_rfl)) (by unfold Func.isWrapper; first | (rw [if_pos (by decide +kernel)]; kernel_rfl) | (rw [if_neg (by decide +kernel)]; exact ⟨rfl, rfl⟩))
    (fun os started H enc _ => lifted os started H enc)

/-- ████ THE STATEMENT ████ -/
theorem proved : Rows.FnSinceYear0OrdersDatesSaid :=
  over
#print axioms proved
end Go.Proofs.Qxb6617955a.fnSinceYear0OrdersDates
