/-
  No cell of these rows narrows 'for every input' (looked for: loops, veiled, ifaces, maps, wideKeys, modest, calm, conditions, laid).
  DERIVED. THE GIVEN ROWS OF THIS SEAT. 1 by the template 'for every input the law returns true; each argument reads behind the call as it read before'; 0 by the template 'total and deterministic' (their statements: Qxb6616624aTotals.lean).
  GIVEN WITH THE SEED: the statements are not yours to turn. If you find one false, say at which input.
  Laid BY PROGRAM, IN A SANDBOX (cutbox-rows.mjs): the forced cells as the released guide's own fill.sh prints them over the translation 47f945595fa9a7ce… (all of the seat's roots in one cut). By AI agents, Wed Nov 11 2026. No macro, syntax, notation, axiom, sorry.
-/
import Derived.Test.Qxb6616624aChecked
import GoSem.Claim
import GoSem.ClaimJoined
import GoSem.ClaimMapViews
import Derived.JoinedTies
import Derived.KernelRfl
namespace Go.Proofs.Qxb6616624a
/- THE CELL 'sum', in the pinned program and in every row, IS THE sha256 OF THE DUMP (.gsa) THAT Qxb6616624aProg.lean LOADS. Nothing in Lean hashes anything: it is a label: what it is worth is what the hold of that sum in a sandbox is worth. -/
noncomputable def Try.pinned : Pinned := { name := "qxb6616624a", sum := "47f945595fa9a7cece4de88ed7f58966ee54005e47db5b293af5f01447b05d70", checked := Try.checked }
namespace Rows
def none {H : Type} : Left H := { results := [], args := [] }

/-- 'zzlaws_root_b1.FnIsBase64URLIsTheURLAlphabet': WHATEVER THE INPUT: true; the input reads as it did. -/
def fnIsBase64URLIsTheURLAlphabetSpec : ChangeSpec := { name := "fnIsBase64URLIsTheURLAlphabet", fn := fun _ => fun
  | [d] => { results := [.lit (.bool true)], args := [d] }
  | _ => none }
def fnIsBase64URLIsTheURLAlphabetRow : OpenClaim := { program := "qxb6616624a", sum := "47f945595fa9a7cece4de88ed7f58966ee54005e47db5b293af5f01447b05d70", func := "example.com/issuerlatch/issuerlatch/zzlaws_root_b1.FnIsBase64URLIsTheURLAlphabet", spec := "fnIsBase64URLIsTheURLAlphabet", apart := false }
def FnIsBase64URLIsTheURLAlphabetSaid : Prop := fnIsBase64URLIsTheURLAlphabetRow.holds Try.pinned (OpenSpec.ofChange fnIsBase64URLIsTheURLAlphabetSpec)

/-- ITS FALSE NEIGHBOUR: 'it returns false'. Refute it at one input. -/
def fnIsBase64URLIsTheURLAlphabetWrong : ChangeSpec := { name := "fnIsBase64URLIsTheURLAlphabet", fn := fun _ => fun
  | [d] => { results := [.lit (.bool false)], args := [d] }
  | _ => none }
def FnIsBase64URLIsTheURLAlphabetWrongFalsely : Prop := fnIsBase64URLIsTheURLAlphabetRow.holds Try.pinned (OpenSpec.ofChange fnIsBase64URLIsTheURLAlphabetWrong)

end Rows
end Go.Proofs.Qxb6616624a
