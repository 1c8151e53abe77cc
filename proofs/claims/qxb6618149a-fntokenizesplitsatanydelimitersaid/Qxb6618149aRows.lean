/-
  No cell of these rows narrows 'for every input' (looked for: loops, veiled, ifaces, maps, wideKeys, modest, calm, conditions, laid).
  DERIVED. THE GIVEN ROWS OF THIS SEAT. 2 by the template 'for every input the law returns true; each argument reads behind the call as it read before'; 0 by the template 'total and deterministic' (their statements: Qxb6618149aTotals.lean).
  GIVEN WITH THE SEED: the statements are not yours to turn. If you find one false, say at which input.
  Laid BY PROGRAM, IN A SANDBOX (cutbox-rows.mjs): the forced cells as the released guide's own fill.sh prints them over the translation 8e9f0f5e16b5fb1c… (all of the seat's roots in one cut). By AI agents, Wed Nov 11 2026. No macro, syntax, notation, axiom, sorry.
-/
import Derived.Test.Qxb6618149aChecked
import GoSem.Claim
import GoSem.ClaimJoined
import GoSem.ClaimMapViews
import Derived.JoinedTies
import Derived.KernelRfl
namespace Go.Proofs.Qxb6618149a
/- THE CELL 'sum', in the pinned program and in every row, IS THE sha256 OF THE DUMP (.gsa) THAT Qxb6618149aProg.lean LOADS. Nothing in Lean hashes anything: it is a label: what it is worth is what the hold of that sum in a sandbox is worth. -/
noncomputable def Try.pinned : Pinned := { name := "qxb6618149a", sum := "8e9f0f5e16b5fb1c42f83a45a1a5b7d43f5887c61916547f530727b26ca61dcf", checked := Try.checked }
namespace Rows
def none {H : Type} : Left H := { results := [], args := [] }

/-- 'zzlaws_search_b1.FnTokenizeReadsBackOverInput': WHATEVER THE INPUT: true; the input reads as it did. -/
def fnTokenizeReadsBackOverInputSpec : ChangeSpec := { name := "fnTokenizeReadsBackOverInput", fn := fun _ => fun
  | [d] => { results := [.lit (.bool true)], args := [d] }
  | _ => none }
def fnTokenizeReadsBackOverInputRow : OpenClaim := { program := "qxb6618149a", sum := "8e9f0f5e16b5fb1c42f83a45a1a5b7d43f5887c61916547f530727b26ca61dcf", func := "example.com/kithmesh/kithmesh/zzlaws_search_b1.FnTokenizeReadsBackOverInput", spec := "fnTokenizeReadsBackOverInput", apart := false }
def FnTokenizeReadsBackOverInputSaid : Prop := fnTokenizeReadsBackOverInputRow.holds Try.pinned (OpenSpec.ofChange fnTokenizeReadsBackOverInputSpec)

/-- ITS FALSE NEIGHBOUR: 'it returns false'. Refute it at one input. -/
def fnTokenizeReadsBackOverInputWrong : ChangeSpec := { name := "fnTokenizeReadsBackOverInput", fn := fun _ => fun
  | [d] => { results := [.lit (.bool false)], args := [d] }
  | _ => none }
def FnTokenizeReadsBackOverInputWrongFalsely : Prop := fnTokenizeReadsBackOverInputRow.holds Try.pinned (OpenSpec.ofChange fnTokenizeReadsBackOverInputWrong)

/-- 'zzlaws_search_b1.FnTokenizeSplitsAtAnyDelimiter': WHATEVER THE INPUT: true; the input reads as it did. -/
def fnTokenizeSplitsAtAnyDelimiterSpec : ChangeSpec := { name := "fnTokenizeSplitsAtAnyDelimiter", fn := fun _ => fun
  | [d1, d2, d3] => { results := [.lit (.bool true)], args := [d1, d2, d3] }
  | _ => none }
def fnTokenizeSplitsAtAnyDelimiterRow : OpenClaim := { program := "qxb6618149a", sum := "8e9f0f5e16b5fb1c42f83a45a1a5b7d43f5887c61916547f530727b26ca61dcf", func := "example.com/kithmesh/kithmesh/zzlaws_search_b1.FnTokenizeSplitsAtAnyDelimiter", spec := "fnTokenizeSplitsAtAnyDelimiter", apart := false }
def FnTokenizeSplitsAtAnyDelimiterSaid : Prop := fnTokenizeSplitsAtAnyDelimiterRow.holds Try.pinned (OpenSpec.ofChange fnTokenizeSplitsAtAnyDelimiterSpec)

/-- ITS FALSE NEIGHBOUR: 'it returns false'. Refute it at one input. -/
def fnTokenizeSplitsAtAnyDelimiterWrong : ChangeSpec := { name := "fnTokenizeSplitsAtAnyDelimiter", fn := fun _ => fun
  | [d1, d2, d3] => { results := [.lit (.bool false)], args := [d1, d2, d3] }
  | _ => none }
def FnTokenizeSplitsAtAnyDelimiterWrongFalsely : Prop := fnTokenizeSplitsAtAnyDelimiterRow.holds Try.pinned (OpenSpec.ofChange fnTokenizeSplitsAtAnyDelimiterWrong)

end Rows
end Go.Proofs.Qxb6618149a
