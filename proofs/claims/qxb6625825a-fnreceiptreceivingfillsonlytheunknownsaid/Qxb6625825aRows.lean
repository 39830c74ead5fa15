/-
  No cell of these rows narrows 'for every input' (looked for: loops, veiled, ifaces, maps, wideKeys, modest, calm, conditions, laid).
  DERIVED. THE GIVEN ROWS OF THIS SEAT. 2 by the template 'for every input the law returns true; each argument reads behind the call as it read before'; 0 by the template 'total and deterministic' (their statements: Qxb6625825aTotals.lean).
  GIVEN WITH THE SEED: the statements are not yours to turn. If you find one false, say at which input.
  Laid BY PROGRAM, IN A SANDBOX (cutbox-rows.mjs): the forced cells as the released guide's own fill.sh prints them over the translation 925df707b82a9bb3… (all of the seat's roots in one cut). By AI agents, Wed Nov 11 2026. No macro, syntax, notation, axiom, sorry.
-/
import Derived.Test.Qxb6625825aChecked
import GoSem.Claim
import GoSem.ClaimJoined
import GoSem.ClaimMapViews
import Derived.JoinedTies
import Derived.KernelRfl
namespace Go.Proofs.Qxb6625825a
/- THE CELL 'sum', in the pinned program and in every row, IS THE sha256 OF THE DUMP (.gsa) THAT Qxb6625825aProg.lean LOADS. Nothing in Lean hashes anything: it is a label: what it is worth is what the hold of that sum in a sandbox is worth. -/
noncomputable def Try.pinned : Pinned := { name := "qxb6625825a", sum := "925df707b82a9bb321d3e2b653ffefee00d012332509e4cc1e72b6876a8ea4bf", checked := Try.checked }
namespace Rows
def none {H : Type} : Left H := { results := [], args := [] }

/-- 'zzlaws_internal_election_b1.FnReceiptReceivingFillsOnlyTheUnknown': WHATEVER THE INPUT: true; the input reads as it did. -/
def fnReceiptReceivingFillsOnlyTheUnknownSpec : ChangeSpec := { name := "fnReceiptReceivingFillsOnlyTheUnknown", fn := fun _ => fun
  | [d1, d2, d3, d4, d5, d6, d7, d8] => { results := [.lit (.bool true)], args := [d1, d2, d3, d4, d5, d6, d7, d8] }
  | _ => none }
def fnReceiptReceivingFillsOnlyTheUnknownRow : OpenClaim := { program := "qxb6625825a", sum := "925df707b82a9bb321d3e2b653ffefee00d012332509e4cc1e72b6876a8ea4bf", func := "example.com/helmwake/helmwake/zzlaws_internal_election_b1.FnReceiptReceivingFillsOnlyTheUnknown", spec := "fnReceiptReceivingFillsOnlyTheUnknown", apart := false }
def FnReceiptReceivingFillsOnlyTheUnknownSaid : Prop := fnReceiptReceivingFillsOnlyTheUnknownRow.holds Try.pinned (OpenSpec.ofChange fnReceiptReceivingFillsOnlyTheUnknownSpec)

/-- ITS FALSE NEIGHBOUR: 'it returns false'. Refute it at one input. -/
def fnReceiptReceivingFillsOnlyTheUnknownWrong : ChangeSpec := { name := "fnReceiptReceivingFillsOnlyTheUnknown", fn := fun _ => fun
  | [d1, d2, d3, d4, d5, d6, d7, d8] => { results := [.lit (.bool false)], args := [d1, d2, d3, d4, d5, d6, d7, d8] }
  | _ => none }
def FnReceiptReceivingFillsOnlyTheUnknownWrongFalsely : Prop := fnReceiptReceivingFillsOnlyTheUnknownRow.holds Try.pinned (OpenSpec.ofChange fnReceiptReceivingFillsOnlyTheUnknownWrong)

/-- 'zzlaws_internal_election_b1.FnReceiptWindowsDecideAndOnlyDistancesCount': WHATEVER THE INPUT: true; the input reads as it did. -/
def fnReceiptWindowsDecideAndOnlyDistancesCountSpec : ChangeSpec := { name := "fnReceiptWindowsDecideAndOnlyDistancesCount", fn := fun _ => fun
  | [d1, d2, d3, d4, d5, d6, d7, d8, d9] => { results := [.lit (.bool true)], args := [d1, d2, d3, d4, d5, d6, d7, d8, d9] }
  | _ => none }
def fnReceiptWindowsDecideAndOnlyDistancesCountRow : OpenClaim := { program := "qxb6625825a", sum := "925df707b82a9bb321d3e2b653ffefee00d012332509e4cc1e72b6876a8ea4bf", func := "example.com/helmwake/helmwake/zzlaws_internal_election_b1.FnReceiptWindowsDecideAndOnlyDistancesCount", spec := "fnReceiptWindowsDecideAndOnlyDistancesCount", apart := false }
def FnReceiptWindowsDecideAndOnlyDistancesCountSaid : Prop := fnReceiptWindowsDecideAndOnlyDistancesCountRow.holds Try.pinned (OpenSpec.ofChange fnReceiptWindowsDecideAndOnlyDistancesCountSpec)

/-- ITS FALSE NEIGHBOUR: 'it returns false'. Refute it at one input. -/
def fnReceiptWindowsDecideAndOnlyDistancesCountWrong : ChangeSpec := { name := "fnReceiptWindowsDecideAndOnlyDistancesCount", fn := fun _ => fun
  | [d1, d2, d3, d4, d5, d6, d7, d8, d9] => { results := [.lit (.bool false)], args := [d1, d2, d3, d4, d5, d6, d7, d8, d9] }
  | _ => none }
def FnReceiptWindowsDecideAndOnlyDistancesCountWrongFalsely : Prop := fnReceiptWindowsDecideAndOnlyDistancesCountRow.holds Try.pinned (OpenSpec.ofChange fnReceiptWindowsDecideAndOnlyDistancesCountWrong)

end Rows
end Go.Proofs.Qxb6625825a
