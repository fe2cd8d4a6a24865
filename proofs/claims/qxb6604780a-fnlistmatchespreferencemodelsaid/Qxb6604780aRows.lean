/-
  No cell of these rows narrows 'for every input' (looked for: loops, veiled, ifaces, maps, wideKeys, modest, calm, conditions, laid).
  DERIVED. THE GIVEN ROWS OF THIS SEAT. 5 by the template 'for every input the law returns true; each argument reads behind the call as it read before'; 0 by the template 'total and deterministic' (their statements: Qxb6604780aTotals.lean).
  GIVEN WITH THE SEED: the statements are not yours to turn. If you find one false, say at which input.
  Laid BY PROGRAM, IN A SANDBOX (cutbox-rows.mjs): the forced cells as the released guide's own fill.sh prints them over the translation d51c6dac1a51bc38… (all of the seat's roots in one cut). By AI agents, Wed Nov 11 2026. No macro, syntax, notation, axiom, sorry.
-/
import Derived.Test.Qxb6604780aChecked
import GoSem.Claim
import GoSem.ClaimJoined
import GoSem.ClaimMapViews
import Derived.JoinedTies
import Derived.KernelRfl
namespace Go.Proofs.Qxb6604780a
/- THE CELL 'sum', in the pinned program and in every row, IS THE sha256 OF THE DUMP (.gsa) THAT Qxb6604780aProg.lean LOADS. Nothing in Lean hashes anything: it is a label: what it is worth is what the hold of that sum in a sandbox is worth. -/
noncomputable def Try.pinned : Pinned := { name := "qxb6604780a", sum := "d51c6dac1a51bc383f4b61970aecb7e0bf20d6acf0fc4065dcfc8460371dba63", checked := Try.checked }
namespace Rows
def none {H : Type} : Left H := { results := [], args := [] }

/-- 'zzlaws_ring_b1.FnListMatchesPreferenceModel': WHATEVER THE INPUT: true; the input reads as it did. -/
def fnListMatchesPreferenceModelSpec : ChangeSpec := { name := "fnListMatchesPreferenceModel", fn := fun _ => fun
  | [d1, d2, d3, d4, d5, d6, d7, d8, d9, d10, d11] => { results := [.lit (.bool true)], args := [d1, d2, d3, d4, d5, d6, d7, d8, d9, d10, d11] }
  | _ => none }
def fnListMatchesPreferenceModelRow : OpenClaim := { program := "qxb6604780a", sum := "d51c6dac1a51bc383f4b61970aecb7e0bf20d6acf0fc4065dcfc8460371dba63", func := "example.com/ringtide/ringtide/zzlaws_ring_b1.FnListMatchesPreferenceModel", spec := "fnListMatchesPreferenceModel", unfollowed := true, recurses := true, apart := false }
def FnListMatchesPreferenceModelSaid : Prop := fnListMatchesPreferenceModelRow.holds Try.pinned (OpenSpec.ofChange fnListMatchesPreferenceModelSpec)

/-- ITS FALSE NEIGHBOUR: 'it returns false'. Refute it at one input. -/
def fnListMatchesPreferenceModelWrong : ChangeSpec := { name := "fnListMatchesPreferenceModel", fn := fun _ => fun
  | [d1, d2, d3, d4, d5, d6, d7, d8, d9, d10, d11] => { results := [.lit (.bool false)], args := [d1, d2, d3, d4, d5, d6, d7, d8, d9, d10, d11] }
  | _ => none }
def FnListMatchesPreferenceModelWrongFalsely : Prop := fnListMatchesPreferenceModelRow.holds Try.pinned (OpenSpec.ofChange fnListMatchesPreferenceModelWrong)

/-- 'zzlaws_ring_b1.FnListLongerCountExtendsShorter': WHATEVER THE INPUT: true; the input reads as it did. -/
def fnListLongerCountExtendsShorterSpec : ChangeSpec := { name := "fnListLongerCountExtendsShorter", fn := fun _ => fun
  | [d1, d2, d3, d4, d5, d6, d7, d8, d9, d10, d11, d12] => { results := [.lit (.bool true)], args := [d1, d2, d3, d4, d5, d6, d7, d8, d9, d10, d11, d12] }
  | _ => none }
def fnListLongerCountExtendsShorterRow : OpenClaim := { program := "qxb6604780a", sum := "d51c6dac1a51bc383f4b61970aecb7e0bf20d6acf0fc4065dcfc8460371dba63", func := "example.com/ringtide/ringtide/zzlaws_ring_b1.FnListLongerCountExtendsShorter", spec := "fnListLongerCountExtendsShorter", unfollowed := true, recurses := true, apart := false }
def FnListLongerCountExtendsShorterSaid : Prop := fnListLongerCountExtendsShorterRow.holds Try.pinned (OpenSpec.ofChange fnListLongerCountExtendsShorterSpec)

/-- ITS FALSE NEIGHBOUR: 'it returns false'. Refute it at one input. -/
def fnListLongerCountExtendsShorterWrong : ChangeSpec := { name := "fnListLongerCountExtendsShorter", fn := fun _ => fun
  | [d1, d2, d3, d4, d5, d6, d7, d8, d9, d10, d11, d12] => { results := [.lit (.bool false)], args := [d1, d2, d3, d4, d5, d6, d7, d8, d9, d10, d11, d12] }
  | _ => none }
def FnListLongerCountExtendsShorterWrongFalsely : Prop := fnListLongerCountExtendsShorterRow.holds Try.pinned (OpenSpec.ofChange fnListLongerCountExtendsShorterWrong)

/-- 'zzlaws_ring_b1.FnScanMatchesReachModel': WHATEVER THE INPUT: true; the input reads as it did. -/
def fnScanMatchesReachModelSpec : ChangeSpec := { name := "fnScanMatchesReachModel", fn := fun _ => fun
  | [d1, d2, d3, d4, d5, d6, d7, d8, d9, d10] => { results := [.lit (.bool true)], args := [d1, d2, d3, d4, d5, d6, d7, d8, d9, d10] }
  | _ => none }
def fnScanMatchesReachModelRow : OpenClaim := { program := "qxb6604780a", sum := "d51c6dac1a51bc383f4b61970aecb7e0bf20d6acf0fc4065dcfc8460371dba63", func := "example.com/ringtide/ringtide/zzlaws_ring_b1.FnScanMatchesReachModel", spec := "fnScanMatchesReachModel", apart := false }
def FnScanMatchesReachModelSaid : Prop := fnScanMatchesReachModelRow.holds Try.pinned (OpenSpec.ofChange fnScanMatchesReachModelSpec)

/-- ITS FALSE NEIGHBOUR: 'it returns false'. Refute it at one input. -/
def fnScanMatchesReachModelWrong : ChangeSpec := { name := "fnScanMatchesReachModel", fn := fun _ => fun
  | [d1, d2, d3, d4, d5, d6, d7, d8, d9, d10] => { results := [.lit (.bool false)], args := [d1, d2, d3, d4, d5, d6, d7, d8, d9, d10] }
  | _ => none }
def FnScanMatchesReachModelWrongFalsely : Prop := fnScanMatchesReachModelRow.holds Try.pinned (OpenSpec.ofChange fnScanMatchesReachModelWrong)

/-- 'zzlaws_ring_b1.FnScanKeepsWithMorePresent': WHATEVER THE INPUT: true; the input reads as it did. -/
def fnScanKeepsWithMorePresentSpec : ChangeSpec := { name := "fnScanKeepsWithMorePresent", fn := fun _ => fun
  | [d1, d2, d3, d4, d5, d6, d7, d8, d9, d10, d11] => { results := [.lit (.bool true)], args := [d1, d2, d3, d4, d5, d6, d7, d8, d9, d10, d11] }
  | _ => none }
def fnScanKeepsWithMorePresentRow : OpenClaim := { program := "qxb6604780a", sum := "d51c6dac1a51bc383f4b61970aecb7e0bf20d6acf0fc4065dcfc8460371dba63", func := "example.com/ringtide/ringtide/zzlaws_ring_b1.FnScanKeepsWithMorePresent", spec := "fnScanKeepsWithMorePresent", apart := false }
def FnScanKeepsWithMorePresentSaid : Prop := fnScanKeepsWithMorePresentRow.holds Try.pinned (OpenSpec.ofChange fnScanKeepsWithMorePresentSpec)

/-- ITS FALSE NEIGHBOUR: 'it returns false'. Refute it at one input. -/
def fnScanKeepsWithMorePresentWrong : ChangeSpec := { name := "fnScanKeepsWithMorePresent", fn := fun _ => fun
  | [d1, d2, d3, d4, d5, d6, d7, d8, d9, d10, d11] => { results := [.lit (.bool false)], args := [d1, d2, d3, d4, d5, d6, d7, d8, d9, d10, d11] }
  | _ => none }
def FnScanKeepsWithMorePresentWrongFalsely : Prop := fnScanKeepsWithMorePresentRow.holds Try.pinned (OpenSpec.ofChange fnScanKeepsWithMorePresentWrong)

/-- 'zzlaws_ring_b1.FnListsWithMatchesOptionalModel': WHATEVER THE INPUT: true; the input reads as it did. -/
def fnListsWithMatchesOptionalModelSpec : ChangeSpec := { name := "fnListsWithMatchesOptionalModel", fn := fun _ => fun
  | [d1, d2, d3, d4, d5] => { results := [.lit (.bool true)], args := [d1, d2, d3, d4, d5] }
  | _ => none }
def fnListsWithMatchesOptionalModelRow : OpenClaim := { program := "qxb6604780a", sum := "d51c6dac1a51bc383f4b61970aecb7e0bf20d6acf0fc4065dcfc8460371dba63", func := "example.com/ringtide/ringtide/zzlaws_ring_b1.FnListsWithMatchesOptionalModel", spec := "fnListsWithMatchesOptionalModel", apart := false }
def FnListsWithMatchesOptionalModelSaid : Prop := fnListsWithMatchesOptionalModelRow.holds Try.pinned (OpenSpec.ofChange fnListsWithMatchesOptionalModelSpec)

/-- ITS FALSE NEIGHBOUR: 'it returns false'. Refute it at one input. -/
def fnListsWithMatchesOptionalModelWrong : ChangeSpec := { name := "fnListsWithMatchesOptionalModel", fn := fun _ => fun
  | [d1, d2, d3, d4, d5] => { results := [.lit (.bool false)], args := [d1, d2, d3, d4, d5] }
  | _ => none }
def FnListsWithMatchesOptionalModelWrongFalsely : Prop := fnListsWithMatchesOptionalModelRow.holds Try.pinned (OpenSpec.ofChange fnListsWithMatchesOptionalModelWrong)

end Rows
end Go.Proofs.Qxb6604780a
