/-
  No cell of these rows narrows 'for every input' (looked for: loops, veiled, ifaces, maps, wideKeys, modest, calm, conditions, laid).
  DERIVED. THE GIVEN ROWS OF THIS SEAT. 1 by the template 'for every input the law returns true; each argument reads behind the call as it read before'; 0 by the template 'total and deterministic' (their statements: Qxb6617024aTotals.lean).
  GIVEN WITH THE SEED: the statements are not yours to turn. If you find one false, say at which input.
  Laid BY PROGRAM, IN A SANDBOX (cutbox-rows.mjs): the forced cells as the released guide's own fill.sh prints them over the translation 34bd3ecb06766050… (all of the seat's roots in one cut). By AI agents, Wed Nov 11 2026. No macro, syntax, notation, axiom, sorry.
-/
import Derived.Test.Qxb6617024aChecked
import GoSem.Claim
import GoSem.ClaimJoined
import GoSem.ClaimMapViews
import Derived.JoinedTies
import Derived.KernelRfl
namespace Go.Proofs.Qxb6617024a
/- THE CELL 'sum', in the pinned program and in every row, IS THE sha256 OF THE DUMP (.gsa) THAT Qxb6617024aProg.lean LOADS. Nothing in Lean hashes anything: it is a label: what it is worth is what the hold of that sum in a sandbox is worth. -/
noncomputable def Try.pinned : Pinned := { name := "qxb6617024a", sum := "34bd3ecb06766050a7c46a1420483ba60618254a6549123685d4f41ca596995a", checked := Try.checked }
namespace Rows
def none {H : Type} : Left H := { results := [], args := [] }

/-- 'zzlaws_internal_flatbuf_b1.FnAddInt32AgreesWithSisters': WHATEVER THE INPUT: true; the input reads as it did. -/
def fnAddInt32AgreesWithSistersSpec : ChangeSpec := { name := "fnAddInt32AgreesWithSisters", fn := fun _ => fun
  | [d1, d2, d3] => { results := [.lit (.bool true)], args := [d1, d2, d3] }
  | _ => none }
def fnAddInt32AgreesWithSistersRow : OpenClaim := { program := "qxb6617024a", sum := "34bd3ecb06766050a7c46a1420483ba60618254a6549123685d4f41ca596995a", func := "example.com/stria/stria/zzlaws_internal_flatbuf_b1.FnAddInt32AgreesWithSisters", spec := "fnAddInt32AgreesWithSisters", apart := false }
def FnAddInt32AgreesWithSistersSaid : Prop := fnAddInt32AgreesWithSistersRow.holds Try.pinned (OpenSpec.ofChange fnAddInt32AgreesWithSistersSpec)

/-- ITS FALSE NEIGHBOUR: 'it returns false'. Refute it at one input. -/
def fnAddInt32AgreesWithSistersWrong : ChangeSpec := { name := "fnAddInt32AgreesWithSisters", fn := fun _ => fun
  | [d1, d2, d3] => { results := [.lit (.bool false)], args := [d1, d2, d3] }
  | _ => none }
def FnAddInt32AgreesWithSistersWrongFalsely : Prop := fnAddInt32AgreesWithSistersRow.holds Try.pinned (OpenSpec.ofChange fnAddInt32AgreesWithSistersWrong)

end Rows
end Go.Proofs.Qxb6617024a
