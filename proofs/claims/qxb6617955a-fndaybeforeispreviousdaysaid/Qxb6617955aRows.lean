/-
  No cell of these rows narrows 'for every input' (looked for: loops, veiled, ifaces, maps, wideKeys, modest, calm, conditions, laid).
  DERIVED. THE GIVEN ROWS OF THIS SEAT. 6 by the template 'for every input the law returns true; each argument reads behind the call as it read before'; 0 by the template 'total and deterministic' (their statements: Qxb6617955aTotals.lean).
  GIVEN WITH THE SEED: the statements are not yours to turn. If you find one false, say at which input.
  Laid BY PROGRAM, IN A SANDBOX (cutbox-rows.mjs): the forced cells as the released guide's own fill.sh prints them over the translation 05ce53b724c723c0… (all of the seat's roots in one cut). By AI agents, Wed Nov 11 2026. No macro, syntax, notation, axiom, sorry.
-/
import Derived.Test.Qxb6617955aChecked
import GoSem.Claim
import GoSem.ClaimJoined
import GoSem.ClaimMapViews
import Derived.JoinedTies
import Derived.KernelRfl
namespace Go.Proofs.Qxb6617955a
/- THE CELL 'sum', in the pinned program and in every row, IS THE sha256 OF THE DUMP (.gsa) THAT Qxb6617955aProg.lean LOADS. Nothing in Lean hashes anything: it is a label: what it is worth is what the hold of that sum in a sandbox is worth. -/
noncomputable def Try.pinned : Pinned := { name := "qxb6617955a", sum := "05ce53b724c723c0ff9caa69a0b59ad21893094b7fc7eda230f84384e7acf4ce", checked := Try.checked }
namespace Rows
def none {H : Type} : Left H := { results := [], args := [] }

/-- 'zzlaws_date_b1.FnDaysMatchesCivilCalendar': WHATEVER THE INPUT: true; the input reads as it did. -/
def fnDaysMatchesCivilCalendarSpec : ChangeSpec := { name := "fnDaysMatchesCivilCalendar", fn := fun _ => fun
  | [d] => { results := [.lit (.bool true)], args := [d] }
  | _ => none }
def fnDaysMatchesCivilCalendarRow : OpenClaim := { program := "qxb6617955a", sum := "05ce53b724c723c0ff9caa69a0b59ad21893094b7fc7eda230f84384e7acf4ce", func := "example.com/vestline/vestline/zzlaws_date_b1.FnDaysMatchesCivilCalendar", spec := "fnDaysMatchesCivilCalendar", apart := false }
def FnDaysMatchesCivilCalendarSaid : Prop := fnDaysMatchesCivilCalendarRow.holds Try.pinned (OpenSpec.ofChange fnDaysMatchesCivilCalendarSpec)

/-- ITS FALSE NEIGHBOUR: 'it returns false'. Refute it at one input. -/
def fnDaysMatchesCivilCalendarWrong : ChangeSpec := { name := "fnDaysMatchesCivilCalendar", fn := fun _ => fun
  | [d] => { results := [.lit (.bool false)], args := [d] }
  | _ => none }
def FnDaysMatchesCivilCalendarWrongFalsely : Prop := fnDaysMatchesCivilCalendarRow.holds Try.pinned (OpenSpec.ofChange fnDaysMatchesCivilCalendarWrong)

/-- 'zzlaws_date_b1.FnDaysYearTotalAndPeriod': WHATEVER THE INPUT: true; the input reads as it did. -/
def fnDaysYearTotalAndPeriodSpec : ChangeSpec := { name := "fnDaysYearTotalAndPeriod", fn := fun _ => fun
  | [d] => { results := [.lit (.bool true)], args := [d] }
  | _ => none }
def fnDaysYearTotalAndPeriodRow : OpenClaim := { program := "qxb6617955a", sum := "05ce53b724c723c0ff9caa69a0b59ad21893094b7fc7eda230f84384e7acf4ce", func := "example.com/vestline/vestline/zzlaws_date_b1.FnDaysYearTotalAndPeriod", spec := "fnDaysYearTotalAndPeriod", apart := false }
def FnDaysYearTotalAndPeriodSaid : Prop := fnDaysYearTotalAndPeriodRow.holds Try.pinned (OpenSpec.ofChange fnDaysYearTotalAndPeriodSpec)

/-- ITS FALSE NEIGHBOUR: 'it returns false'. Refute it at one input. -/
def fnDaysYearTotalAndPeriodWrong : ChangeSpec := { name := "fnDaysYearTotalAndPeriod", fn := fun _ => fun
  | [d] => { results := [.lit (.bool false)], args := [d] }
  | _ => none }
def FnDaysYearTotalAndPeriodWrongFalsely : Prop := fnDaysYearTotalAndPeriodRow.holds Try.pinned (OpenSpec.ofChange fnDaysYearTotalAndPeriodWrong)

/-- 'zzlaws_date_b1.FnSinceYear0MatchesCivilCount': WHATEVER THE INPUT: true; the input reads as it did. -/
def fnSinceYear0MatchesCivilCountSpec : ChangeSpec := { name := "fnSinceYear0MatchesCivilCount", fn := fun _ => fun
  | [d1, d2] => { results := [.lit (.bool true)], args := [d1, d2] }
  | _ => none }
def fnSinceYear0MatchesCivilCountRow : OpenClaim := { program := "qxb6617955a", sum := "05ce53b724c723c0ff9caa69a0b59ad21893094b7fc7eda230f84384e7acf4ce", func := "example.com/vestline/vestline/zzlaws_date_b1.FnSinceYear0MatchesCivilCount", spec := "fnSinceYear0MatchesCivilCount", apart := false }
def FnSinceYear0MatchesCivilCountSaid : Prop := fnSinceYear0MatchesCivilCountRow.holds Try.pinned (OpenSpec.ofChange fnSinceYear0MatchesCivilCountSpec)

/-- ITS FALSE NEIGHBOUR: 'it returns false'. Refute it at one input. -/
def fnSinceYear0MatchesCivilCountWrong : ChangeSpec := { name := "fnSinceYear0MatchesCivilCount", fn := fun _ => fun
  | [d1, d2] => { results := [.lit (.bool false)], args := [d1, d2] }
  | _ => none }
def FnSinceYear0MatchesCivilCountWrongFalsely : Prop := fnSinceYear0MatchesCivilCountRow.holds Try.pinned (OpenSpec.ofChange fnSinceYear0MatchesCivilCountWrong)

/-- 'zzlaws_date_b1.FnSinceYear0OrdersDates': WHATEVER THE INPUT: true; the input reads as it did. -/
def fnSinceYear0OrdersDatesSpec : ChangeSpec := { name := "fnSinceYear0OrdersDates", fn := fun _ => fun
  | [d1, d2, d3, d4] => { results := [.lit (.bool true)], args := [d1, d2, d3, d4] }
  | _ => none }
def fnSinceYear0OrdersDatesRow : OpenClaim := { program := "qxb6617955a", sum := "05ce53b724c723c0ff9caa69a0b59ad21893094b7fc7eda230f84384e7acf4ce", func := "example.com/vestline/vestline/zzlaws_date_b1.FnSinceYear0OrdersDates", spec := "fnSinceYear0OrdersDates", apart := false }
def FnSinceYear0OrdersDatesSaid : Prop := fnSinceYear0OrdersDatesRow.holds Try.pinned (OpenSpec.ofChange fnSinceYear0OrdersDatesSpec)

/-- ITS FALSE NEIGHBOUR: 'it returns false'. Refute it at one input. -/
def fnSinceYear0OrdersDatesWrong : ChangeSpec := { name := "fnSinceYear0OrdersDates", fn := fun _ => fun
  | [d1, d2, d3, d4] => { results := [.lit (.bool false)], args := [d1, d2, d3, d4] }
  | _ => none }
def FnSinceYear0OrdersDatesWrongFalsely : Prop := fnSinceYear0OrdersDatesRow.holds Try.pinned (OpenSpec.ofChange fnSinceYear0OrdersDatesWrong)

/-- 'zzlaws_date_b1.FnDayBeforeIsPreviousDay': WHATEVER THE INPUT: true; the input reads as it did. -/
def fnDayBeforeIsPreviousDaySpec : ChangeSpec := { name := "fnDayBeforeIsPreviousDay", fn := fun _ => fun
  | [d1, d2] => { results := [.lit (.bool true)], args := [d1, d2] }
  | _ => none }
def fnDayBeforeIsPreviousDayRow : OpenClaim := { program := "qxb6617955a", sum := "05ce53b724c723c0ff9caa69a0b59ad21893094b7fc7eda230f84384e7acf4ce", func := "example.com/vestline/vestline/zzlaws_date_b1.FnDayBeforeIsPreviousDay", spec := "fnDayBeforeIsPreviousDay", apart := false }
def FnDayBeforeIsPreviousDaySaid : Prop := fnDayBeforeIsPreviousDayRow.holds Try.pinned (OpenSpec.ofChange fnDayBeforeIsPreviousDaySpec)

/-- ITS FALSE NEIGHBOUR: 'it returns false'. Refute it at one input. -/
def fnDayBeforeIsPreviousDayWrong : ChangeSpec := { name := "fnDayBeforeIsPreviousDay", fn := fun _ => fun
  | [d1, d2] => { results := [.lit (.bool false)], args := [d1, d2] }
  | _ => none }
def FnDayBeforeIsPreviousDayWrongFalsely : Prop := fnDayBeforeIsPreviousDayRow.holds Try.pinned (OpenSpec.ofChange fnDayBeforeIsPreviousDayWrong)

/-- 'zzlaws_date_b1.FnDayBeforeWalksBack': WHATEVER THE INPUT: true; the input reads as it did. -/
def fnDayBeforeWalksBackSpec : ChangeSpec := { name := "fnDayBeforeWalksBack", fn := fun _ => fun
  | [d1, d2, d3] => { results := [.lit (.bool true)], args := [d1, d2, d3] }
  | _ => none }
def fnDayBeforeWalksBackRow : OpenClaim := { program := "qxb6617955a", sum := "05ce53b724c723c0ff9caa69a0b59ad21893094b7fc7eda230f84384e7acf4ce", func := "example.com/vestline/vestline/zzlaws_date_b1.FnDayBeforeWalksBack", spec := "fnDayBeforeWalksBack", apart := false }
def FnDayBeforeWalksBackSaid : Prop := fnDayBeforeWalksBackRow.holds Try.pinned (OpenSpec.ofChange fnDayBeforeWalksBackSpec)

/-- ITS FALSE NEIGHBOUR: 'it returns false'. Refute it at one input. -/
def fnDayBeforeWalksBackWrong : ChangeSpec := { name := "fnDayBeforeWalksBack", fn := fun _ => fun
  | [d1, d2, d3] => { results := [.lit (.bool false)], args := [d1, d2, d3] }
  | _ => none }
def FnDayBeforeWalksBackWrongFalsely : Prop := fnDayBeforeWalksBackRow.holds Try.pinned (OpenSpec.ofChange fnDayBeforeWalksBackWrong)

end Rows
end Go.Proofs.Qxb6617955a
