/-
  No cell of these rows narrows 'for every input' (looked for: loops, veiled, ifaces, maps, wideKeys, modest, calm, conditions, laid).
  DERIVED. THE GIVEN ROWS OF THIS SEAT. 2 by the template 'for every input the law returns true; each argument reads behind the call as it read before'; 0 by the template 'total and deterministic' (their statements: Qxb6612936aTotals.lean).
  GIVEN WITH THE SEED: the statements are not yours to turn. If you find one false, say at which input.
  Laid BY PROGRAM, IN A SANDBOX (cutbox-rows.mjs): the forced cells as the released guide's own fill.sh prints them over the translation 03c4009d4de28429… (all of the seat's roots in one cut). By AI agents, Wed Nov 11 2026. No macro, syntax, notation, axiom, sorry.
-/
import Derived.Test.Qxb6612936aChecked
import GoSem.Claim
import GoSem.ClaimJoined
import GoSem.ClaimMapViews
import Derived.JoinedTies
import Derived.KernelRfl
namespace Go.Proofs.Qxb6612936a
/- THE CELL 'sum', in the pinned program and in every row, IS THE sha256 OF THE DUMP (.gsa) THAT Qxb6612936aProg.lean LOADS. Nothing in Lean hashes anything: it is a label: what it is worth is what the hold of that sum in a sandbox is worth. -/
noncomputable def Try.pinned : Pinned := { name := "qxb6612936a", sum := "03c4009d4de28429d1a04ba3f07d88adb4f6e7dbd0ca650c029905ef0ac7375b", checked := Try.checked }
namespace Rows
def none {H : Type} : Left H := { results := [], args := [] }

/-- 'zzlaws_maven_b1.FnBeforeTrichotomy': WHATEVER THE INPUT: true; the input reads as it did. -/
def fnBeforeTrichotomySpec : ChangeSpec := { name := "fnBeforeTrichotomy", fn := fun _ => fun
  | [d1, d2, d3, d4] => { results := [.lit (.bool true)], args := [d1, d2, d3, d4] }
  | _ => none }
def fnBeforeTrichotomyRow : OpenClaim := { program := "qxb6612936a", sum := "03c4009d4de28429d1a04ba3f07d88adb4f6e7dbd0ca650c029905ef0ac7375b", func := "example.com/proof-of-config/proof-of-config/zzlaws_maven_b1.FnBeforeTrichotomy", spec := "fnBeforeTrichotomy", apart := false }
def FnBeforeTrichotomySaid : Prop := fnBeforeTrichotomyRow.holds Try.pinned (OpenSpec.ofChange fnBeforeTrichotomySpec)

/-- ITS FALSE NEIGHBOUR: 'it returns false'. Refute it at one input. -/
def fnBeforeTrichotomyWrong : ChangeSpec := { name := "fnBeforeTrichotomy", fn := fun _ => fun
  | [d1, d2, d3, d4] => { results := [.lit (.bool false)], args := [d1, d2, d3, d4] }
  | _ => none }
def FnBeforeTrichotomyWrongFalsely : Prop := fnBeforeTrichotomyRow.holds Try.pinned (OpenSpec.ofChange fnBeforeTrichotomyWrong)

/-- 'zzlaws_maven_b1.FnBeforeSuccessor': WHATEVER THE INPUT: true; the input reads as it did. -/
def fnBeforeSuccessorSpec : ChangeSpec := { name := "fnBeforeSuccessor", fn := fun _ => fun
  | [d1, d2, d3, d4] => { results := [.lit (.bool true)], args := [d1, d2, d3, d4] }
  | _ => none }
def fnBeforeSuccessorRow : OpenClaim := { program := "qxb6612936a", sum := "03c4009d4de28429d1a04ba3f07d88adb4f6e7dbd0ca650c029905ef0ac7375b", func := "example.com/proof-of-config/proof-of-config/zzlaws_maven_b1.FnBeforeSuccessor", spec := "fnBeforeSuccessor", apart := false }
def FnBeforeSuccessorSaid : Prop := fnBeforeSuccessorRow.holds Try.pinned (OpenSpec.ofChange fnBeforeSuccessorSpec)

/-- ITS FALSE NEIGHBOUR: 'it returns false'. Refute it at one input. -/
def fnBeforeSuccessorWrong : ChangeSpec := { name := "fnBeforeSuccessor", fn := fun _ => fun
  | [d1, d2, d3, d4] => { results := [.lit (.bool false)], args := [d1, d2, d3, d4] }
  | _ => none }
def FnBeforeSuccessorWrongFalsely : Prop := fnBeforeSuccessorRow.holds Try.pinned (OpenSpec.ofChange fnBeforeSuccessorWrong)

end Rows
end Go.Proofs.Qxb6612936a
