/-
  No cell of these rows narrows 'for every input' (looked for: loops, veiled, ifaces, maps, wideKeys, modest, calm, conditions, laid).
  DERIVED. THE GIVEN ROWS OF THIS SEAT. 2 by the template 'for every input the law returns true; each argument reads behind the call as it read before'; 0 by the template 'total and deterministic' (their statements: Qxb6604292aTotals.lean).
  GIVEN WITH THE SEED: the statements are not yours to turn. If you find one false, say at which input.
  Laid BY PROGRAM, IN A SANDBOX (cutbox-rows.mjs): the forced cells as the released guide's own fill.sh prints them over the translation 94deaee55f303755… (all of the seat's roots in one cut). By AI agents, Wed Nov 11 2026. No macro, syntax, notation, axiom, sorry.
-/
import Derived.Test.Qxb6604292aChecked
import GoSem.Claim
import GoSem.ClaimJoined
import GoSem.ClaimMapViews
import Derived.JoinedTies
import Derived.KernelRfl
namespace Go.Proofs.Qxb6604292a
/- THE CELL 'sum', in the pinned program and in every row, IS THE sha256 OF THE DUMP (.gsa) THAT Qxb6604292aProg.lean LOADS. Nothing in Lean hashes anything: it is a label: what it is worth is what the hold of that sum in a sandbox is worth. -/
noncomputable def Try.pinned : Pinned := { name := "qxb6604292a", sum := "94deaee55f303755c514942d663bbda0460ea03433eda6e5b5df86456d038e7a", checked := Try.checked }
namespace Rows
def none {H : Type} : Left H := { results := [], args := [] }

/-- 'zzlaws_root_b1.FnCompareOwnersAgreesWithEscapedKey': WHATEVER THE INPUT: true; the input reads as it did. -/
def fnCompareOwnersAgreesWithEscapedKeySpec : ChangeSpec := { name := "fnCompareOwnersAgreesWithEscapedKey", fn := fun _ => fun
  | [d1, d2, d3, d4] => { results := [.lit (.bool true)], args := [d1, d2, d3, d4] }
  | _ => none }
def fnCompareOwnersAgreesWithEscapedKeyRow : OpenClaim := { program := "qxb6604292a", sum := "94deaee55f303755c514942d663bbda0460ea03433eda6e5b5df86456d038e7a", func := "example.com/unforged-warrant/unforged-warrant/zzlaws_root_b1.FnCompareOwnersAgreesWithEscapedKey", spec := "fnCompareOwnersAgreesWithEscapedKey", inPlace := ["internal/bytealg.abigen_runtime_cmpstring"], apart := false }
def FnCompareOwnersAgreesWithEscapedKeySaid : Prop := fnCompareOwnersAgreesWithEscapedKeyRow.holds Try.pinned (OpenSpec.ofChange fnCompareOwnersAgreesWithEscapedKeySpec)

/-- ITS FALSE NEIGHBOUR: 'it returns false'. Refute it at one input. -/
def fnCompareOwnersAgreesWithEscapedKeyWrong : ChangeSpec := { name := "fnCompareOwnersAgreesWithEscapedKey", fn := fun _ => fun
  | [d1, d2, d3, d4] => { results := [.lit (.bool false)], args := [d1, d2, d3, d4] }
  | _ => none }
def FnCompareOwnersAgreesWithEscapedKeyWrongFalsely : Prop := fnCompareOwnersAgreesWithEscapedKeyRow.holds Try.pinned (OpenSpec.ofChange fnCompareOwnersAgreesWithEscapedKeyWrong)

/-- 'zzlaws_root_b1.FnCompareOwnersAntisymmetricAndZeroIffEqual': WHATEVER THE INPUT: true; the input reads as it did. -/
def fnCompareOwnersAntisymmetricAndZeroIffEqualSpec : ChangeSpec := { name := "fnCompareOwnersAntisymmetricAndZeroIffEqual", fn := fun _ => fun
  | [d1, d2, d3, d4] => { results := [.lit (.bool true)], args := [d1, d2, d3, d4] }
  | _ => none }
def fnCompareOwnersAntisymmetricAndZeroIffEqualRow : OpenClaim := { program := "qxb6604292a", sum := "94deaee55f303755c514942d663bbda0460ea03433eda6e5b5df86456d038e7a", func := "example.com/unforged-warrant/unforged-warrant/zzlaws_root_b1.FnCompareOwnersAntisymmetricAndZeroIffEqual", spec := "fnCompareOwnersAntisymmetricAndZeroIffEqual", inPlace := ["internal/bytealg.abigen_runtime_cmpstring"], apart := false }
def FnCompareOwnersAntisymmetricAndZeroIffEqualSaid : Prop := fnCompareOwnersAntisymmetricAndZeroIffEqualRow.holds Try.pinned (OpenSpec.ofChange fnCompareOwnersAntisymmetricAndZeroIffEqualSpec)

/-- ITS FALSE NEIGHBOUR: 'it returns false'. Refute it at one input. -/
def fnCompareOwnersAntisymmetricAndZeroIffEqualWrong : ChangeSpec := { name := "fnCompareOwnersAntisymmetricAndZeroIffEqual", fn := fun _ => fun
  | [d1, d2, d3, d4] => { results := [.lit (.bool false)], args := [d1, d2, d3, d4] }
  | _ => none }
def FnCompareOwnersAntisymmetricAndZeroIffEqualWrongFalsely : Prop := fnCompareOwnersAntisymmetricAndZeroIffEqualRow.holds Try.pinned (OpenSpec.ofChange fnCompareOwnersAntisymmetricAndZeroIffEqualWrong)

end Rows
end Go.Proofs.Qxb6604292a
