/-
  No cell of these rows narrows 'for every input' (looked for: loops, veiled, ifaces, maps, wideKeys, modest, calm, conditions, laid).
  DERIVED. THE GIVEN ROWS OF THIS SEAT. 2 by the template 'for every input the law returns true; each argument reads behind the call as it read before'; 0 by the template 'total and deterministic' (their statements: Qxb6630607aTotals.lean).
  GIVEN WITH THE SEED: the statements are not yours to turn. If you find one false, say at which input.
  Laid BY PROGRAM, IN A SANDBOX (cutbox-rows.mjs): the forced cells as the released guide's own fill.sh prints them over the translation c3c48fc2c5ac5816… (all of the seat's roots in one cut). By AI agents, Wed Nov 11 2026. No macro, syntax, notation, axiom, sorry.
-/
import Derived.Test.Qxb6630607aChecked
import GoSem.Claim
import GoSem.ClaimJoined
import GoSem.ClaimMapViews
import Derived.JoinedTies
import Derived.KernelRfl
namespace Go.Proofs.Qxb6630607a
/- THE CELL 'sum', in the pinned program and in every row, IS THE sha256 OF THE DUMP (.gsa) THAT Qxb6630607aProg.lean LOADS. Nothing in Lean hashes anything: it is a label: what it is worth is what the hold of that sum in a sandbox is worth. -/
noncomputable def Try.pinned : Pinned := { name := "qxb6630607a", sum := "c3c48fc2c5ac58164f11547b1e9a8dc6c85fe68c776bca3dbeb988b6b2e2c4c1", checked := Try.checked }
namespace Rows
def none {H : Type} : Left H := { results := [], args := [] }

/-- 'zzlaws_internal_excerpt_b1.FnEncloseIsWholeOrLongestCut': WHATEVER THE INPUT: true; the input reads as it did. -/
def fnEncloseIsWholeOrLongestCutSpec : ChangeSpec := { name := "fnEncloseIsWholeOrLongestCut", fn := fun _ => fun
  | [d1, d2] => { results := [.lit (.bool true)], args := [d1, d2] }
  | _ => none }
def fnEncloseIsWholeOrLongestCutRow : OpenClaim := { program := "qxb6630607a", sum := "c3c48fc2c5ac58164f11547b1e9a8dc6c85fe68c776bca3dbeb988b6b2e2c4c1", func := "example.com/overtake/overtake/zzlaws_internal_excerpt_b1.FnEncloseIsWholeOrLongestCut", spec := "fnEncloseIsWholeOrLongestCut", apart := false }
def FnEncloseIsWholeOrLongestCutSaid : Prop := fnEncloseIsWholeOrLongestCutRow.holds Try.pinned (OpenSpec.ofChange fnEncloseIsWholeOrLongestCutSpec)

/-- ITS FALSE NEIGHBOUR: 'it returns false'. Refute it at one input. -/
def fnEncloseIsWholeOrLongestCutWrong : ChangeSpec := { name := "fnEncloseIsWholeOrLongestCut", fn := fun _ => fun
  | [d1, d2] => { results := [.lit (.bool false)], args := [d1, d2] }
  | _ => none }
def FnEncloseIsWholeOrLongestCutWrongFalsely : Prop := fnEncloseIsWholeOrLongestCutRow.holds Try.pinned (OpenSpec.ofChange fnEncloseIsWholeOrLongestCutWrong)

/-- 'zzlaws_internal_excerpt_b1.FnEncloseJoinedAgreesWithParts': WHATEVER THE INPUT: true; the input reads as it did. -/
def fnEncloseJoinedAgreesWithPartsSpec : ChangeSpec := { name := "fnEncloseJoinedAgreesWithParts", fn := fun _ => fun
  | [d1, d2, d3] => { results := [.lit (.bool true)], args := [d1, d2, d3] }
  | _ => none }
def fnEncloseJoinedAgreesWithPartsRow : OpenClaim := { program := "qxb6630607a", sum := "c3c48fc2c5ac58164f11547b1e9a8dc6c85fe68c776bca3dbeb988b6b2e2c4c1", func := "example.com/overtake/overtake/zzlaws_internal_excerpt_b1.FnEncloseJoinedAgreesWithParts", spec := "fnEncloseJoinedAgreesWithParts", apart := false }
def FnEncloseJoinedAgreesWithPartsSaid : Prop := fnEncloseJoinedAgreesWithPartsRow.holds Try.pinned (OpenSpec.ofChange fnEncloseJoinedAgreesWithPartsSpec)

/-- ITS FALSE NEIGHBOUR: 'it returns false'. Refute it at one input. -/
def fnEncloseJoinedAgreesWithPartsWrong : ChangeSpec := { name := "fnEncloseJoinedAgreesWithParts", fn := fun _ => fun
  | [d1, d2, d3] => { results := [.lit (.bool false)], args := [d1, d2, d3] }
  | _ => none }
def FnEncloseJoinedAgreesWithPartsWrongFalsely : Prop := fnEncloseJoinedAgreesWithPartsRow.holds Try.pinned (OpenSpec.ofChange fnEncloseJoinedAgreesWithPartsWrong)

end Rows
end Go.Proofs.Qxb6630607a
