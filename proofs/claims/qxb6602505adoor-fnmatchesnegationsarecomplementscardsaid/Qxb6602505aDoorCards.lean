/-
  DERIVED. GIVEN WITH THE SEED: THE CARDS: each row of Qxb6602505aDoorRows.lean that lists a variable, with what it lists TIED to the program's text (the seventh form; the later family's looks); each row that meets fmt, with fmt's text TOLD by the authors' own Lean function (tested against real Go, not proved from fmt's source: count such statements apart). THE CARD IS WHAT COUNTS. Prove the row's statement (the work); the ties are given (Qxb6602505aDoorTie.lean); close each card by the builder's one call (the guide's Derived/Test/ToyasCard.lean, 'card_holds'). Laid BY PROGRAM, IN A SANDBOX (cutbox-door.mjs). By AI agents, Wed Nov 11 2026. No macro, syntax, notation, axiom, sorry.
-/
import Derived.Test.Qxb6602505aDoorRows
import GoSem.ClaimSeven
namespace Go.Proofs.Qxb6602505aDoor
namespace Rows

/-- THE TIED CARD OF 'zzlaws_labels_b1.FnMatchesNegationsAreComplements'. -/
def fnMatchesNegationsAreComplementsCard : Claim7 := { stood := { row := fnMatchesNegationsAreComplementsRow, standIns := [], harness := (true, "0374f3fa3fe14ec1ff760481c7a6803c6739c29229d29b388076b0ca386c4ad0"), looks := true }, kinds := [], alts := [], laidByText := true, laidKinds := [.data, .data, .data, .sentinel, .sentinel], laidTests := true, laidLooks := .later }
def FnMatchesNegationsAreComplementsCardSaid : Prop := Claim7.holds Tryd.pinned (.plain (OpenSpec.ofChange fnMatchesNegationsAreComplementsSpec)) fnMatchesNegationsAreComplementsCard

/-- THE TIED CARD OF 'zzlaws_labels_b1.FnMatchesNumericComparisonIsOrdered'. -/
def fnMatchesNumericComparisonIsOrderedCard : Claim7 := { stood := { row := fnMatchesNumericComparisonIsOrderedRow, standIns := [], harness := (true, "0374f3fa3fe14ec1ff760481c7a6803c6739c29229d29b388076b0ca386c4ad0"), looks := true }, kinds := [], alts := [], laidByText := true, laidKinds := [.data, .data, .data, .sentinel, .sentinel], laidTests := true, laidLooks := .later }
def FnMatchesNumericComparisonIsOrderedCardSaid : Prop := Claim7.holds Tryd.pinned (.plain (OpenSpec.ofChange fnMatchesNumericComparisonIsOrderedSpec)) fnMatchesNumericComparisonIsOrderedCard
end Rows
end Go.Proofs.Qxb6602505aDoor
