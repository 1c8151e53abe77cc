/- The proof of the given statement Rows.FnTokenizeSplitsAtAnyDelimiterSaid: the frame is the seat's shell, the walk is typed by hand. -/
import Derived.Test.Qxb6618149aRows
import Derived.Test.Qxb6618149aSplitwalk
import Derived.WalkKit
import Derived.ProofKit
import Derived.OpenShut
import Derived.ShutString
import Derived.Below
namespace Go.Proofs.Qxb6618149a.fnTokenizeSplitsAtAnyDelimiter
open Go.ChangeShapes Go.WideShapes Go.ChangeAt Go.RowKit
open Go.ChangeMaps (open_string shut_string)
set_option linter.unusedVariables false      -- a walk need not use every 'w<i>' (that an integer argument fits its kind)

theorem own : ownKnob Try.prog.godebug = none := by kernel_rfl

/-! ### STEP 1: THE WALK: the Go text returns true. 'Below': nothing that was there is written. Part the cases AHEAD of 'go_enter' where a test parts the walk; take each callee by a contract of your own. -/
theorem walk (a0 : ByteArray) (a1 : Int) (a2 : ByteArray) (w0 : a0.size ≤ maxLen) (w1 : (Lit.int .u8 a1).wf = true) (w2 : a2.size ≤ maxLen) (w : World) :
    Calls Try.prog 4 #[.string a0, .int .u8 a1, .string a2] w fun e w' => e = .returned (.bool true) ∧ Below w.heap.size w w' := by
  have hb := bounds_u8 w1
  obtain ⟨hb1, hb2⟩ := hb
  obtain ⟨c, rfl⟩ : ∃ c : UInt8, a1 = (c.toNat : Int) := ⟨UInt8.ofNat a1.toNat, by simp; omega⟩
  clear hb1 hb2
  by_cases c1 : a0.size + a2.size ≤ 1048576
  · have hd : decide (a0.size + a2.size ≤ 1048576) = true := decide_eq_true c1
    by_cases c2 : a0.size ≤ 65536
    · by_cases c3 : a2.size ≤ 65536
      · by_cases c4 : delB c.toNat = true
        · have lenL : (Tok.toks a0.data.toList).length ≤ a0.size := by
            rw [Tok.cnt_toks]
            have := Tok.cnt_le a0.data.toList
            simpa using this
          have lenR : (Tok.toks a2.data.toList).length ≤ a2.size := by
            rw [Tok.cnt_toks]
            have := Tok.cnt_le a2.data.toList
            simpa using this
          refine split_main a0 a2 (joined a0 c a2) c w c2 c3 c4 (jb_of a0 c a2) _ _ _ _ (joined_toks a0 c a2 c4) (show Hid (_ = _) from rfl) (show Hid (_ = _) from rfl) (parts_of _ _ c) lenL lenR ?_
          by_cases hp : parB c.toNat = true
          · have hp2 := hp
            rw [parB_byte] at hp2
            exact .inl ⟨hp, by simp [Tok.extra, hp2]⟩
          · have hp' : parB c.toNat = false := by simpa using hp
            have hp2 := hp'
            rw [parB_byte] at hp2
            exact .inr ⟨hp', by simp [Tok.extra, hp2]⟩
        · have c4' : delB c.toNat = false := by simpa using c4
          clear c1 c4
          go_enter Try.func4, Try.ntmps4
          go_wp2_with (first | (go_at_call 10; refine (bytes2_any a0 _ a2 _ w0 w2).mono ?_; rintro e w' ⟨rfl, rfl⟩) | (go_at_call 9; refine (delim_any _ _).mono ?_; rintro e w' ⟨rfl, rfl⟩))
          go_ret
          exact ⟨rfl, Below.refl _ _⟩
      · clear c1
        go_enter Try.func4, Try.ntmps4
        go_wp2_with (go_at_call 10; refine (bytes2_any a0 _ a2 _ w0 w2).mono ?_; rintro e w' ⟨rfl, rfl⟩)
        go_ret
        exact ⟨rfl, Below.refl _ _⟩
    · clear c1
      go_enter Try.func4, Try.ntmps4
      go_wp2_with (go_at_call 10; refine (bytes2_any a0 _ a2 _ w0 w2).mono ?_; rintro e w' ⟨rfl, rfl⟩)
      go_ret
      exact ⟨rfl, Below.refl _ _⟩
  · have hd : decide (a0.size + a2.size ≤ 1048576) = false := decide_eq_false c1
    clear c1
    go_enter Try.func4, Try.ntmps4
    go_wp2_with (go_at_call 10; refine (bytes2_any a0 _ a2 _ w0 w2).mono ?_; rintro e w' ⟨rfl, rfl⟩)
    go_ret
    exact ⟨rfl, Below.refl _ _⟩

/-! ### THE ROW's STEP: WRITTEN OUT: LEAVE IT -/
set_option maxRecDepth 100000 in
theorem lifted (os : Os) (started : os.Started) (H : Type) (enc : TypeId × Value → H) :
    ReturnsInHanded {} Try.checked os 4 .any (Rows.fnTokenizeSplitsAtAnyDelimiterSpec.pre6 enc Try.prog Try.f4 Rows.fnTokenizeSplitsAtAnyDelimiterRow.domain false) (Rows.fnTokenizeSplitsAtAnyDelimiterSpec.post enc Try.prog Try.f4 false true false false) := by
  refine returnsInHanded_of_change (C := Try.checked) own started (by kernel_rfl) Try.func4
    (ChangeSpec.witness6 (enc := enc) (C := Try.checked) false ⟨#[], #[.string ByteArray.empty, .int .u8 0, .string ByteArray.empty], []⟩ 8 (by kernel_rfl) (by kernel_rfl) (by kernel_rfl) (by kernel_rfl)) ?_
  intro W base args ds gs before hval0 hW hcnd _
  have hval : ∀ (j : Nat) t v, Try.f4.params[j]? = some t → args[j]? = some v → Value.okWide Try.prog W .any base t v := hval0
  have hW' := hW
  obtain ⟨p, q, hA0, hV, rfl, hfz, hnd⟩ := hW
  have hA : DataW.TrodAll enc Try.prog W 0 (fun _ => true) true Try.f4.params.toList args.toList ds p := hA0
  rw [Try.params4] at hA hval
  obtain ⟨v0, vs0, d0, ds0, p0, q0, hargs, rfl, rfl, h0, r0⟩ := trodAll_cons hA
  obtain ⟨v1, vs1, d1, ds1, p1, q1, rfl, rfl, rfl, h1, r1⟩ := trodAll_cons r0
  obtain ⟨v2, vs2, d2, ds2, p2, q2, rfl, rfl, rfl, h2, r2⟩ := trodAll_cons r1
  obtain ⟨rfl, rfl, rfl⟩ := trodAll_nil r2
  obtain rfl : args = #[v0, v1, v2] := by cases args; simp_all
  obtain ⟨rfl, rfl⟩ := trodVars_none hV
  obtain ⟨a0, rfl, rfl, rfl, w0⟩ := open_string Try.underlying9 (hval 0 9 v0 rfl rfl) h0
  obtain ⟨a1, rfl, rfl, rfl, w1⟩ := open_int Try.underlying5 (hval 1 5 v1 rfl rfl) h1
  obtain ⟨a2, rfl, rfl, rfl, w2⟩ := open_string Try.underlying9 (hval 2 9 v2 rfl rfl) h2
  clear hA0 hval0
  simp only [List.append_nil] at hW'
  refine (walk a0 a1 a2 w0 w1 w2 W).mono fun e W' ⟨he, bel⟩ => ?_
  subst he
  exact ⟨_, rfl, _, _, _, [], [], [], hW', (trodAll_cons_mk (shut_bool Try.underlying4 _) trodAll_mk0), (trodAll_cons_mk (shut_string Try.underlying9 w0) (trodAll_cons_mk (shut_int Try.underlying5 w1) (trodAll_cons_mk (shut_string Try.underlying9 w2) trodAll_mk0))), rfl, bel.frame _, fun h => by cases h⟩

theorem over : Rows.fnTokenizeSplitsAtAnyDelimiterRow.holds Try.pinned (OpenSpec.ofChange Rows.fnTokenizeSplitsAtAnyDelimiterSpec) :=
  OpenClaim.holds_of_wide 4 Try.f4 rfl rfl rfl rfl rfl rfl rfl ⟨rfl, rfl, rfl, rfl, rfl⟩ rfl rfl rfl rfl rfl (by kernel_rfl) Try.func4 (by kernel_rfl)
    (of_decide_eq_true (by kernel_rfl)) (by unfold Func.isWrapper; first | (rw [if_pos (by decide +kernel)]; kernel_rfl) | (rw [if_neg (by decide +kernel)]; exact ⟨rfl, rfl⟩))
    (fun os started H enc _ => lifted os started H enc)

/-- ████ THE STATEMENT ████ -/
theorem proved : Rows.FnTokenizeSplitsAtAnyDelimiterSaid :=
  over
#print axioms proved
end Go.Proofs.Qxb6618149a.fnTokenizeSplitsAtAnyDelimiter
