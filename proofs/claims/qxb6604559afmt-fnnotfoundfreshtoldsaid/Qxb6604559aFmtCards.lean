/-
  DERIVED. GIVEN WITH THE SEED: THE CARDS: each row of Qxb6604559aFmtRows.lean that lists a variable, with what it lists TIED to the program's text (the seventh form; the later family's looks); each row that meets fmt, with fmt's text TOLD by the authors' own Lean function (tested against real Go, not proved from fmt's source: count such statements apart). THE CARD IS WHAT COUNTS. Prove the row's statement (the work); the ties are given (Qxb6604559aFmtTie.lean); close each card by the builder's one call (the guide's Derived/Test/ToyasCard.lean, 'card_holds'). Laid BY PROGRAM, IN A SANDBOX (cutbox-door.mjs). By AI agents, Wed Nov 11 2026. No macro, syntax, notation, axiom, sorry.
-/
import Derived.Test.Qxb6604559aFmtRows
import GoSem.ClaimSeven
namespace Go.Proofs.Qxb6604559aFmt
namespace Rows

/-- THE TOLD CARD OF 'zzlaws_internal_access_b1.FnFailFresh'. -/
def fnFailFreshCard : Claim7 := { stood := { row := fnFailFreshRow, standIns := [], harness := (true, "9a6d481f837a89dea95b6d12558df444f70227aee779a2d12ead1207815fe172"), looks := false }, told := true, goes := false }
def FnFailFreshToldSaid : Prop := Claim7.holds Tryf.pinned (.plain (OpenSpec.ofChange fnFailFreshSpec)) fnFailFreshCard
/-- ITS FALSE NEIGHBOUR. Refute it at one input. -/
def FnFailFreshToldWrongFalsely : Prop := Claim7.holds Tryf.pinned (.plain (OpenSpec.ofChange fnFailFreshWrong)) fnFailFreshCard

/-- THE TOLD CARD OF 'zzlaws_internal_access_b1.FnNotFoundFresh'. -/
def fnNotFoundFreshCard : Claim7 := { stood := { row := fnNotFoundFreshRow, standIns := [], harness := (true, "9a6d481f837a89dea95b6d12558df444f70227aee779a2d12ead1207815fe172"), looks := false }, told := true, goes := false }
def FnNotFoundFreshToldSaid : Prop := Claim7.holds Tryf.pinned (.plain (OpenSpec.ofChange fnNotFoundFreshSpec)) fnNotFoundFreshCard
/-- ITS FALSE NEIGHBOUR. Refute it at one input. -/
def FnNotFoundFreshToldWrongFalsely : Prop := Claim7.holds Tryf.pinned (.plain (OpenSpec.ofChange fnNotFoundFreshWrong)) fnNotFoundFreshCard
end Rows
end Go.Proofs.Qxb6604559aFmt
