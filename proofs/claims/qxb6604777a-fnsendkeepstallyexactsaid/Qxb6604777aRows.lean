/-
  No cell of these rows narrows 'for every input' (looked for: loops, veiled, ifaces, maps, wideKeys, modest, calm, conditions, laid).
  DERIVED. THE GIVEN ROWS OF THIS SEAT. 4 by the template 'for every input the law returns true; each argument reads behind the call as it read before'; 0 by the template 'total and deterministic' (their statements: Qxb6604777aTotals.lean).
  GIVEN WITH THE SEED: the statements are not yours to turn. If you find one false, say at which input.
  Laid BY PROGRAM, IN A SANDBOX (cutbox-rows.mjs): the forced cells as the released guide's own fill.sh prints them over the translation 7617aa660ab98b8b… (all of the seat's roots in one cut). By AI agents, Wed Nov 11 2026. No macro, syntax, notation, axiom, sorry.
-/
import Derived.Test.Qxb6604777aChecked
import GoSem.Claim
import GoSem.ClaimJoined
import GoSem.ClaimMapViews
import Derived.JoinedTies
import Derived.KernelRfl
namespace Go.Proofs.Qxb6604777a
/- THE CELL 'sum', in the pinned program and in every row, IS THE sha256 OF THE DUMP (.gsa) THAT Qxb6604777aProg.lean LOADS. Nothing in Lean hashes anything: it is a label: what it is worth is what the hold of that sum in a sandbox is worth. -/
noncomputable def Try.pinned : Pinned := { name := "qxb6604777a", sum := "7617aa660ab98b8b3a189553e492ed8762eda7323b6f83ea43ee02d7db14c0a3", checked := Try.checked }
namespace Rows
def none {H : Type} : Left H := { results := [], args := [] }

/-- 'zzlaws_tworound_b1.FnSendKeepsTallyExact': WHATEVER THE INPUT: true; the input reads as it did. -/
def fnSendKeepsTallyExactSpec : ChangeSpec := { name := "fnSendKeepsTallyExact", fn := fun _ => fun
  | [d1, d2, d3, d4, d5, d6] => { results := [.lit (.bool true)], args := [d1, d2, d3, d4, d5, d6] }
  | _ => none }
def fnSendKeepsTallyExactRow : OpenClaim := { program := "qxb6604777a", sum := "7617aa660ab98b8b3a189553e492ed8762eda7323b6f83ea43ee02d7db14c0a3", func := "example.com/kagree/kagree/zzlaws_tworound_b1.FnSendKeepsTallyExact", spec := "fnSendKeepsTallyExact", apart := false }
def FnSendKeepsTallyExactSaid : Prop := fnSendKeepsTallyExactRow.holds Try.pinned (OpenSpec.ofChange fnSendKeepsTallyExactSpec)

/-- ITS FALSE NEIGHBOUR: 'it returns false'. Refute it at one input. -/
def fnSendKeepsTallyExactWrong : ChangeSpec := { name := "fnSendKeepsTallyExact", fn := fun _ => fun
  | [d1, d2, d3, d4, d5, d6] => { results := [.lit (.bool false)], args := [d1, d2, d3, d4, d5, d6] }
  | _ => none }
def FnSendKeepsTallyExactWrongFalsely : Prop := fnSendKeepsTallyExactRow.holds Try.pinned (OpenSpec.ofChange fnSendKeepsTallyExactWrong)

/-- 'zzlaws_tworound_b1.FnShowSummarisesColumn': WHATEVER THE INPUT: true; the input reads as it did. -/
def fnShowSummarisesColumnSpec : ChangeSpec := { name := "fnShowSummarisesColumn", fn := fun _ => fun
  | [d1, d2, d3] => { results := [.lit (.bool true)], args := [d1, d2, d3] }
  | _ => none }
def fnShowSummarisesColumnRow : OpenClaim := { program := "qxb6604777a", sum := "7617aa660ab98b8b3a189553e492ed8762eda7323b6f83ea43ee02d7db14c0a3", func := "example.com/kagree/kagree/zzlaws_tworound_b1.FnShowSummarisesColumn", spec := "fnShowSummarisesColumn", apart := false }
def FnShowSummarisesColumnSaid : Prop := fnShowSummarisesColumnRow.holds Try.pinned (OpenSpec.ofChange fnShowSummarisesColumnSpec)

/-- ITS FALSE NEIGHBOUR: 'it returns false'. Refute it at one input. -/
def fnShowSummarisesColumnWrong : ChangeSpec := { name := "fnShowSummarisesColumn", fn := fun _ => fun
  | [d1, d2, d3] => { results := [.lit (.bool false)], args := [d1, d2, d3] }
  | _ => none }
def FnShowSummarisesColumnWrongFalsely : Prop := fnShowSummarisesColumnRow.holds Try.pinned (OpenSpec.ofChange fnShowSummarisesColumnWrong)

/-- 'zzlaws_tworound_b1.FnShowScriptKeepsSummary': WHATEVER THE INPUT: true; the input reads as it did. -/
def fnShowScriptKeepsSummarySpec : ChangeSpec := { name := "fnShowScriptKeepsSummary", fn := fun _ => fun
  | [d1, d2, d3] => { results := [.lit (.bool true)], args := [d1, d2, d3] }
  | _ => none }
def fnShowScriptKeepsSummaryRow : OpenClaim := { program := "qxb6604777a", sum := "7617aa660ab98b8b3a189553e492ed8762eda7323b6f83ea43ee02d7db14c0a3", func := "example.com/kagree/kagree/zzlaws_tworound_b1.FnShowScriptKeepsSummary", spec := "fnShowScriptKeepsSummary", apart := false }
def FnShowScriptKeepsSummarySaid : Prop := fnShowScriptKeepsSummaryRow.holds Try.pinned (OpenSpec.ofChange fnShowScriptKeepsSummarySpec)

/-- ITS FALSE NEIGHBOUR: 'it returns false'. Refute it at one input. -/
def fnShowScriptKeepsSummaryWrong : ChangeSpec := { name := "fnShowScriptKeepsSummary", fn := fun _ => fun
  | [d1, d2, d3] => { results := [.lit (.bool false)], args := [d1, d2, d3] }
  | _ => none }
def FnShowScriptKeepsSummaryWrongFalsely : Prop := fnShowScriptKeepsSummaryRow.holds Try.pinned (OpenSpec.ofChange fnShowScriptKeepsSummaryWrong)

/-- 'zzlaws_tworound_b1.FnClaimVoidsExactly': WHATEVER THE INPUT: true; the input reads as it did. -/
def fnClaimVoidsExactlySpec : ChangeSpec := { name := "fnClaimVoidsExactly", fn := fun _ => fun
  | [d1, d2, d3, d4, d5, d6, d7] => { results := [.lit (.bool true)], args := [d1, d2, d3, d4, d5, d6, d7] }
  | _ => none }
def fnClaimVoidsExactlyRow : OpenClaim := { program := "qxb6604777a", sum := "7617aa660ab98b8b3a189553e492ed8762eda7323b6f83ea43ee02d7db14c0a3", func := "example.com/kagree/kagree/zzlaws_tworound_b1.FnClaimVoidsExactly", spec := "fnClaimVoidsExactly", apart := false }
def FnClaimVoidsExactlySaid : Prop := fnClaimVoidsExactlyRow.holds Try.pinned (OpenSpec.ofChange fnClaimVoidsExactlySpec)

/-- ITS FALSE NEIGHBOUR: 'it returns false'. Refute it at one input. -/
def fnClaimVoidsExactlyWrong : ChangeSpec := { name := "fnClaimVoidsExactly", fn := fun _ => fun
  | [d1, d2, d3, d4, d5, d6, d7] => { results := [.lit (.bool false)], args := [d1, d2, d3, d4, d5, d6, d7] }
  | _ => none }
def FnClaimVoidsExactlyWrongFalsely : Prop := fnClaimVoidsExactlyRow.holds Try.pinned (OpenSpec.ofChange fnClaimVoidsExactlyWrong)

end Rows
end Go.Proofs.Qxb6604777a
