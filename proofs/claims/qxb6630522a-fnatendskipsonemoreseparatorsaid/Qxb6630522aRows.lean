/-
  No cell of these rows narrows 'for every input' (looked for: loops, veiled, ifaces, maps, wideKeys, modest, calm, conditions, laid).
  DERIVED. THE GIVEN ROWS OF THIS SEAT. 2 by the template 'for every input the law returns true; each argument reads behind the call as it read before'; 0 by the template 'total and deterministic' (their statements: Qxb6630522aTotals.lean).
  GIVEN WITH THE SEED: the statements are not yours to turn. If you find one false, say at which input.
  Laid BY PROGRAM, IN A SANDBOX (cutbox-rows.mjs): the forced cells as the released guide's own fill.sh prints them over the translation 64cd5746ba9544e6… (all of the seat's roots in one cut). By AI agents, Wed Nov 11 2026. No macro, syntax, notation, axiom, sorry.
-/
import Derived.Test.Qxb6630522aChecked
import GoSem.Claim
import GoSem.ClaimJoined
import GoSem.ClaimMapViews
import Derived.JoinedTies
import Derived.KernelRfl
namespace Go.Proofs.Qxb6630522a
/- THE CELL 'sum', in the pinned program and in every row, IS THE sha256 OF THE DUMP (.gsa) THAT Qxb6630522aProg.lean LOADS. Nothing in Lean hashes anything: it is a label: what it is worth is what the hold of that sum in a sandbox is worth. -/
noncomputable def Try.pinned : Pinned := { name := "qxb6630522a", sum := "64cd5746ba9544e6425638effea2a62e3c05a45afa433136a34d3e3903c67f8f", checked := Try.checked }
namespace Rows
def none {H : Type} : Left H := { results := [], args := [] }

/-- 'zzlaws_internal_jsontoken_b1.FnAtEndStopsAtFirstNonSeparator': WHATEVER THE INPUT: true; the input reads as it did. -/
def fnAtEndStopsAtFirstNonSeparatorSpec : ChangeSpec := { name := "fnAtEndStopsAtFirstNonSeparator", fn := fun _ => fun
  | [d1, d2] => { results := [.lit (.bool true)], args := [d1, d2] }
  | _ => none }
def fnAtEndStopsAtFirstNonSeparatorRow : OpenClaim := { program := "qxb6630522a", sum := "64cd5746ba9544e6425638effea2a62e3c05a45afa433136a34d3e3903c67f8f", func := "example.com/eyes4/eyes4/zzlaws_internal_jsontoken_b1.FnAtEndStopsAtFirstNonSeparator", spec := "fnAtEndStopsAtFirstNonSeparator", apart := false }
def FnAtEndStopsAtFirstNonSeparatorSaid : Prop := fnAtEndStopsAtFirstNonSeparatorRow.holds Try.pinned (OpenSpec.ofChange fnAtEndStopsAtFirstNonSeparatorSpec)

/-- ITS FALSE NEIGHBOUR: 'it returns false'. Refute it at one input. -/
def fnAtEndStopsAtFirstNonSeparatorWrong : ChangeSpec := { name := "fnAtEndStopsAtFirstNonSeparator", fn := fun _ => fun
  | [d1, d2] => { results := [.lit (.bool false)], args := [d1, d2] }
  | _ => none }
def FnAtEndStopsAtFirstNonSeparatorWrongFalsely : Prop := fnAtEndStopsAtFirstNonSeparatorRow.holds Try.pinned (OpenSpec.ofChange fnAtEndStopsAtFirstNonSeparatorWrong)

/-- 'zzlaws_internal_jsontoken_b1.FnAtEndSkipsOneMoreSeparator': WHATEVER THE INPUT: true; the input reads as it did. -/
def fnAtEndSkipsOneMoreSeparatorSpec : ChangeSpec := { name := "fnAtEndSkipsOneMoreSeparator", fn := fun _ => fun
  | [d1, d2, d3] => { results := [.lit (.bool true)], args := [d1, d2, d3] }
  | _ => none }
def fnAtEndSkipsOneMoreSeparatorRow : OpenClaim := { program := "qxb6630522a", sum := "64cd5746ba9544e6425638effea2a62e3c05a45afa433136a34d3e3903c67f8f", func := "example.com/eyes4/eyes4/zzlaws_internal_jsontoken_b1.FnAtEndSkipsOneMoreSeparator", spec := "fnAtEndSkipsOneMoreSeparator", apart := false }
def FnAtEndSkipsOneMoreSeparatorSaid : Prop := fnAtEndSkipsOneMoreSeparatorRow.holds Try.pinned (OpenSpec.ofChange fnAtEndSkipsOneMoreSeparatorSpec)

/-- ITS FALSE NEIGHBOUR: 'it returns false'. Refute it at one input. -/
def fnAtEndSkipsOneMoreSeparatorWrong : ChangeSpec := { name := "fnAtEndSkipsOneMoreSeparator", fn := fun _ => fun
  | [d1, d2, d3] => { results := [.lit (.bool false)], args := [d1, d2, d3] }
  | _ => none }
def FnAtEndSkipsOneMoreSeparatorWrongFalsely : Prop := fnAtEndSkipsOneMoreSeparatorRow.holds Try.pinned (OpenSpec.ofChange fnAtEndSkipsOneMoreSeparatorWrong)

end Rows
end Go.Proofs.Qxb6630522a
