/-
  No cell of these rows narrows 'for every input' (looked for: loops, veiled, ifaces, maps, wideKeys, modest, calm, conditions, laid).
  DERIVED. THE GIVEN ROWS OF THIS SEAT. 1 by the template 'for every input the law returns true; each argument reads behind the call as it read before'; 0 by the template 'total and deterministic' (their statements: Qxb6613886aTotals.lean).
  GIVEN WITH THE SEED: the statements are not yours to turn. If you find one false, say at which input.
  Laid BY PROGRAM, IN A SANDBOX (cutbox-rows.mjs): the forced cells as the released guide's own fill.sh prints them over the translation d23b4afee2fd1f73… (all of the seat's roots in one cut). By AI agents, Wed Nov 11 2026. No macro, syntax, notation, axiom, sorry.
-/
import Derived.Test.Qxb6613886aChecked
import GoSem.Claim
import GoSem.ClaimJoined
import GoSem.ClaimMapViews
import Derived.JoinedTies
import Derived.KernelRfl
namespace Go.Proofs.Qxb6613886a
/- THE CELL 'sum', in the pinned program and in every row, IS THE sha256 OF THE DUMP (.gsa) THAT Qxb6613886aProg.lean LOADS. Nothing in Lean hashes anything: it is a label: what it is worth is what the hold of that sum in a sandbox is worth. -/
noncomputable def Try.pinned : Pinned := { name := "qxb6613886a", sum := "d23b4afee2fd1f734ea85bd18eeffbbed5648752b15a9eeb87330445c7cf7311", checked := Try.checked }
namespace Rows
def none {H : Type} : Left H := { results := [], args := [] }

/-- 'zzlaws_verify_b1.FnMemoryDropForgetsOneToken': WHATEVER THE INPUT: true; the input reads as it did. -/
def fnMemoryDropForgetsOneTokenSpec : ChangeSpec := { name := "fnMemoryDropForgetsOneToken", fn := fun _ => fun
  | [d1, d2, d3, d4] => { results := [.lit (.bool true)], args := [d1, d2, d3, d4] }
  | _ => none }
def fnMemoryDropForgetsOneTokenRow : OpenClaim := { program := "qxb6613886a", sum := "d23b4afee2fd1f734ea85bd18eeffbbed5648752b15a9eeb87330445c7cf7311", func := "example.com/ausweis/ausweis/zzlaws_verify_b1.FnMemoryDropForgetsOneToken", spec := "fnMemoryDropForgetsOneToken", plainKeys := false, apart := false }
def FnMemoryDropForgetsOneTokenSaid : Prop := fnMemoryDropForgetsOneTokenRow.holds Try.pinned (OpenSpec.ofChange fnMemoryDropForgetsOneTokenSpec)

/-- ITS FALSE NEIGHBOUR: 'it returns false'. Refute it at one input. -/
def fnMemoryDropForgetsOneTokenWrong : ChangeSpec := { name := "fnMemoryDropForgetsOneToken", fn := fun _ => fun
  | [d1, d2, d3, d4] => { results := [.lit (.bool false)], args := [d1, d2, d3, d4] }
  | _ => none }
def FnMemoryDropForgetsOneTokenWrongFalsely : Prop := fnMemoryDropForgetsOneTokenRow.holds Try.pinned (OpenSpec.ofChange fnMemoryDropForgetsOneTokenWrong)

end Rows
end Go.Proofs.Qxb6613886a
