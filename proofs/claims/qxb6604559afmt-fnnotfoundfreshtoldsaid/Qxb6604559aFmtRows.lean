/-
  No cell of these rows narrows 'for every input' (looked for: loops, veiled, ifaces, maps, wideKeys, modest, calm, conditions, laid).
  DERIVED. THE GIVEN ROWS OF THIS SEAT. 2 by the template 'for every input the law returns true; each argument reads behind the call as it read before'; 0 by the template 'total and deterministic' (their statements: Qxb6604559aFmtTotals.lean).
  GIVEN WITH THE SEED: the statements are not yours to turn. If you find one false, say at which input.
  Laid BY PROGRAM, IN A SANDBOX (cutbox-rows.mjs): the forced cells as the released guide's own fill.sh prints them over the translation cb3f502012fabb8e… (all of the seat's roots in one cut). By AI agents, Wed Nov 11 2026. No macro, syntax, notation, axiom, sorry.
-/
import Derived.Test.Qxb6604559aFmtChecked
import GoSem.Claim
import GoSem.ClaimJoined
import GoSem.ClaimMapViews
import Derived.JoinedTies
import Derived.KernelRfl
namespace Go.Proofs.Qxb6604559aFmt
/- THE CELL 'sum', in the pinned program and in every row, IS THE sha256 OF THE DUMP (.gsa) THAT Qxb6604559aFmtProg.lean LOADS. Nothing in Lean hashes anything: it is a label: what it is worth is what the hold of that sum in a sandbox is worth. -/
noncomputable def Tryf.pinned : Pinned := { name := "qxb6604559afmt", sum := "cb3f502012fabb8eb0cac12b066925dc9b852fe89a2f01ca0c6a2bd6af17d060", checked := Tryf.checked }
namespace Rows
def none {H : Type} : Left H := { results := [], args := [] }

/-- 'zzlaws_internal_access_b1.FnFailFresh': WHATEVER THE INPUT: true; the input reads as it did. -/
def fnFailFreshSpec : ChangeSpec := { name := "fnFailFresh", fn := fun _ => fun
  | [d1, d2] => { results := [.lit (.bool true)], args := [d1, d2] }
  | _ => none }
def fnFailFreshRow : OpenClaim := { program := "qxb6604559afmt", sum := "cb3f502012fabb8eb0cac12b066925dc9b852fe89a2f01ca0c6a2bd6af17d060", func := "example.com/vrata/vrata/zzlaws_internal_access_b1.FnFailFresh", spec := "fnFailFresh", stops := ["fmt.Sprintf, its operands' methods called"], inPlace := ["fmt.Sprintf"], unfollowed := true, recurses := true, apart := false }
/-- NO THEOREM (fmt's text is open here; it may be false): for the released tool's asking of the row's closed facts alone. THE STATEMENT IS 'FnFailFreshToldSaid' (Qxb6604559aFmtCards.lean). -/
def FnFailFreshFormAsk : Prop := fnFailFreshRow.holds Tryf.pinned (OpenSpec.ofChange fnFailFreshSpec)

/-- ITS FALSE NEIGHBOUR: 'it returns false'. Refute it at one input. -/
def fnFailFreshWrong : ChangeSpec := { name := "fnFailFresh", fn := fun _ => fun
  | [d1, d2] => { results := [.lit (.bool false)], args := [d1, d2] }
  | _ => none }
def FnFailFreshWrongFormAsk : Prop := fnFailFreshRow.holds Tryf.pinned (OpenSpec.ofChange fnFailFreshWrong)

/-- 'zzlaws_internal_access_b1.FnNotFoundFresh': WHATEVER THE INPUT: true; the input reads as it did. -/
def fnNotFoundFreshSpec : ChangeSpec := { name := "fnNotFoundFresh", fn := fun _ => fun
  | [d] => { results := [.lit (.bool true)], args := [d] }
  | _ => none }
def fnNotFoundFreshRow : OpenClaim := { program := "qxb6604559afmt", sum := "cb3f502012fabb8eb0cac12b066925dc9b852fe89a2f01ca0c6a2bd6af17d060", func := "example.com/vrata/vrata/zzlaws_internal_access_b1.FnNotFoundFresh", spec := "fnNotFoundFresh", stops := ["fmt.Sprintf, its operands' methods called"], inPlace := ["fmt.Sprintf"], unfollowed := true, recurses := true, apart := false }
/-- NO THEOREM (fmt's text is open here; it may be false): for the released tool's asking of the row's closed facts alone. THE STATEMENT IS 'FnNotFoundFreshToldSaid' (Qxb6604559aFmtCards.lean). -/
def FnNotFoundFreshFormAsk : Prop := fnNotFoundFreshRow.holds Tryf.pinned (OpenSpec.ofChange fnNotFoundFreshSpec)

/-- ITS FALSE NEIGHBOUR: 'it returns false'. Refute it at one input. -/
def fnNotFoundFreshWrong : ChangeSpec := { name := "fnNotFoundFresh", fn := fun _ => fun
  | [d] => { results := [.lit (.bool false)], args := [d] }
  | _ => none }
def FnNotFoundFreshWrongFormAsk : Prop := fnNotFoundFreshRow.holds Tryf.pinned (OpenSpec.ofChange fnNotFoundFreshWrong)

end Rows
end Go.Proofs.Qxb6604559aFmt
