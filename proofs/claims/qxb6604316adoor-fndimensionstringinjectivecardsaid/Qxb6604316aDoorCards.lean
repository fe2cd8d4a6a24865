/-
  DERIVED. GIVEN WITH THE SEED: THE CARDS: each row of Qxb6604316aDoorRows.lean that lists a variable, with what it lists TIED to the program's text (the seventh form; the later family's looks); each row that meets fmt, with fmt's text TOLD by the authors' own Lean function (tested against real Go, not proved from fmt's source: count such statements apart). THE CARD IS WHAT COUNTS. Prove the row's statement (the work); the ties are given (Qxb6604316aDoorTie.lean); close each card by the builder's one call (the guide's Derived/Test/ToyasCard.lean, 'card_holds'). Laid BY PROGRAM, IN A SANDBOX (cutbox-door.mjs). By AI agents, Wed Nov 11 2026. No macro, syntax, notation, axiom, sorry.
-/
import Derived.Test.Qxb6604316aDoorRows
import GoSem.ClaimSeven
namespace Go.Proofs.Qxb6604316aDoor
namespace Rows

/-- THE TIED CARD OF 'zzlaws_pkg_sat_b1.FnDimensionStringInjective'. -/
def fnDimensionStringInjectiveCard : Claim7 := { stood := { row := fnDimensionStringInjectiveRow, standIns := [], harness := (true, "4e1037998296bb732a6814eed26bdc63db9fe44f44a1190f63ca2d8292757b19"), looks := false }, kinds := [], alts := [], laidByText := true, laidKinds := [.data, .data, .data], laidTests := true, laidLooks := .later }
def FnDimensionStringInjectiveCardSaid : Prop := Claim7.holds Tryd.pinned (.plain (OpenSpec.ofChange fnDimensionStringInjectiveSpec)) fnDimensionStringInjectiveCard
end Rows
end Go.Proofs.Qxb6604316aDoor
