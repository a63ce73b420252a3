/-
  No cell of these rows narrows 'for every input' (looked for: loops, veiled, ifaces, maps, wideKeys, modest, calm, conditions, laid).
  DERIVED. THE GIVEN ROWS OF THIS SEAT. 2 by the template 'for every input the law returns true; each argument reads behind the call as it read before'; 0 by the template 'total and deterministic' (their statements: Qxb6604149aTotals.lean).
  GIVEN WITH THE SEED: the statements are not yours to turn. If you find one false, say at which input.
  Laid BY PROGRAM, IN A SANDBOX (cutbox-rows.mjs): the forced cells as the released guide's own fill.sh prints them over the translation 09c1380306938bd5… (all of the seat's roots in one cut). By AI agents, Wed Nov 11 2026. No macro, syntax, notation, axiom, sorry.
-/
import Derived.Test.Qxb6604149aChecked
import GoSem.Claim
import GoSem.ClaimJoined
import GoSem.ClaimMapViews
import Derived.JoinedTies
import Derived.KernelRfl
namespace Go.Proofs.Qxb6604149a
/- THE CELL 'sum', in the pinned program and in every row, IS THE sha256 OF THE DUMP (.gsa) THAT Qxb6604149aProg.lean LOADS. Nothing in Lean hashes anything: it is a label: what it is worth is what the hold of that sum in a sandbox is worth. -/
noncomputable def Try.pinned : Pinned := { name := "qxb6604149a", sum := "09c1380306938bd536fa71518d7cab345f637f11137bc396fc84a8ab127453e4", checked := Try.checked }
namespace Rows
def none {H : Type} : Left H := { results := [], args := [] }

/-- 'zzlaws_routing_b1.FnJointValueMatchesBitParity': WHATEVER THE INPUT: true; the input reads as it did. -/
def fnJointValueMatchesBitParitySpec : ChangeSpec := { name := "fnJointValueMatchesBitParity", fn := fun _ => fun
  | [d] => { results := [.lit (.bool true)], args := [d] }
  | _ => none }
def fnJointValueMatchesBitParityRow : OpenClaim := { program := "qxb6604149a", sum := "09c1380306938bd536fa71518d7cab345f637f11137bc396fc84a8ab127453e4", func := "example.com/quorumpath/quorumpath/zzlaws_routing_b1.FnJointValueMatchesBitParity", spec := "fnJointValueMatchesBitParity", apart := false }
def FnJointValueMatchesBitParitySaid : Prop := fnJointValueMatchesBitParityRow.holds Try.pinned (OpenSpec.ofChange fnJointValueMatchesBitParitySpec)

/-- ITS FALSE NEIGHBOUR: 'it returns false'. Refute it at one input. -/
def fnJointValueMatchesBitParityWrong : ChangeSpec := { name := "fnJointValueMatchesBitParity", fn := fun _ => fun
  | [d] => { results := [.lit (.bool false)], args := [d] }
  | _ => none }
def FnJointValueMatchesBitParityWrongFalsely : Prop := fnJointValueMatchesBitParityRow.holds Try.pinned (OpenSpec.ofChange fnJointValueMatchesBitParityWrong)

/-- 'zzlaws_routing_b1.FnJointValueEachSlotDecides': WHATEVER THE INPUT: true; the input reads as it did. -/
def fnJointValueEachSlotDecidesSpec : ChangeSpec := { name := "fnJointValueEachSlotDecides", fn := fun _ => fun
  | [d1, d2, d3] => { results := [.lit (.bool true)], args := [d1, d2, d3] }
  | _ => none }
def fnJointValueEachSlotDecidesRow : OpenClaim := { program := "qxb6604149a", sum := "09c1380306938bd536fa71518d7cab345f637f11137bc396fc84a8ab127453e4", func := "example.com/quorumpath/quorumpath/zzlaws_routing_b1.FnJointValueEachSlotDecides", spec := "fnJointValueEachSlotDecides", apart := false }
def FnJointValueEachSlotDecidesSaid : Prop := fnJointValueEachSlotDecidesRow.holds Try.pinned (OpenSpec.ofChange fnJointValueEachSlotDecidesSpec)

/-- ITS FALSE NEIGHBOUR: 'it returns false'. Refute it at one input. -/
def fnJointValueEachSlotDecidesWrong : ChangeSpec := { name := "fnJointValueEachSlotDecides", fn := fun _ => fun
  | [d1, d2, d3] => { results := [.lit (.bool false)], args := [d1, d2, d3] }
  | _ => none }
def FnJointValueEachSlotDecidesWrongFalsely : Prop := fnJointValueEachSlotDecidesRow.holds Try.pinned (OpenSpec.ofChange fnJointValueEachSlotDecidesWrong)

end Rows
end Go.Proofs.Qxb6604149a
