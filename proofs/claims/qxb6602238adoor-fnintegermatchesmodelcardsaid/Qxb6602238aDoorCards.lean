/-
  DERIVED. GIVEN WITH THE SEED: THE CARDS: each row of Qxb6602238aDoorRows.lean that lists a variable, with what it lists TIED to the program's text (the seventh form; the later family's looks); each row that meets fmt, with fmt's text TOLD by the authors' own Lean function (tested against real Go, not proved from fmt's source: count such statements apart). THE CARD IS WHAT COUNTS. Prove the row's statement (the work); the ties are given (Qxb6602238aDoorTie.lean); close each card by the builder's one call (the guide's Derived/Test/ToyasCard.lean, 'card_holds'). Laid BY PROGRAM, IN A SANDBOX (cutbox-door.mjs). By AI agents, Wed Nov 11 2026. No macro, syntax, notation, axiom, sorry.
-/
import Derived.Test.Qxb6602238aDoorRows
import GoSem.ClaimSeven
namespace Go.Proofs.Qxb6602238aDoor
namespace Rows

/-- THE TIED CARD OF 'zzlaws_internal_openai_b1.FnIntegerMatchesModel'. -/
def fnIntegerMatchesModelCard : Claim7 := { stood := { row := fnIntegerMatchesModelRow, standIns := [], harness := (true, "668691076cf3d9ca87f44927343c3202985c25c6a471c9fde868d79a3c2be436"), looks := true }, kinds := [], alts := [], laidByText := true, laidKinds := [.data, .data, .data, .called, .called], laidTests := true, laidLooks := .later }
def FnIntegerMatchesModelCardSaid : Prop := Claim7.holds Tryd.pinned (.plain (OpenSpec.ofChange fnIntegerMatchesModelSpec)) fnIntegerMatchesModelCard
end Rows
end Go.Proofs.Qxb6602238aDoor
