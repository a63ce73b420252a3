/-
  DERIVED. GIVEN WITH THE SEED: THE CARDS: each row of Qxb6604436aDoorRows.lean that lists a variable, with what it lists TIED to the program's text (the seventh form; the later family's looks); each row that meets fmt, with fmt's text TOLD by the authors' own Lean function (tested against real Go, not proved from fmt's source: count such statements apart). THE CARD IS WHAT COUNTS. Prove the row's statement (the work); the ties are given (Qxb6604436aDoorTie.lean); close each card by the builder's one call (the guide's Derived/Test/ToyasCard.lean, 'card_holds'). Laid BY PROGRAM, IN A SANDBOX (cutbox-door.mjs). By AI agents, Wed Nov 11 2026. No macro, syntax, notation, axiom, sorry.
-/
import Derived.Test.Qxb6604436aDoorRows
import GoSem.ClaimSeven
namespace Go.Proofs.Qxb6604436aDoor
namespace Rows

/-- THE TIED CARD OF 'zzlaws_internal_protocol_b1.FnErrorOfGivesBackTheAPIErrorItIsOrWraps'. -/
def fnErrorOfGivesBackTheAPIErrorItIsOrWrapsCard : Claim7 := { stood := { row := fnErrorOfGivesBackTheAPIErrorItIsOrWrapsRow, standIns := [], harness := (true, "e1654a773157e5e6083ffaeaba3fbf114912f6873856d8d6deef45401d54352d"), looks := true }, kinds := [], alts := [], laidByText := true, laidKinds := [.handle], laidTests := true, laidLooks := .later }
def FnErrorOfGivesBackTheAPIErrorItIsOrWrapsCardSaid : Prop := Claim7.holds Tryd.pinned (.plain (OpenSpec.ofChange fnErrorOfGivesBackTheAPIErrorItIsOrWrapsSpec)) fnErrorOfGivesBackTheAPIErrorItIsOrWrapsCard
end Rows
end Go.Proofs.Qxb6604436aDoor
