/-
  No cell of these rows narrows 'for every input' (looked for: loops, veiled, ifaces, maps, wideKeys, modest, calm, conditions, laid).
  DERIVED. THE GIVEN ROWS OF THIS SEAT. 4 by the template 'for every input the law returns true; each argument reads behind the call as it read before'; 0 by the template 'total and deterministic' (their statements: Qxb6617169aTotals.lean).
  GIVEN WITH THE SEED: the statements are not yours to turn. If you find one false, say at which input.
  Laid BY PROGRAM, IN A SANDBOX (cutbox-rows.mjs): the forced cells as the released guide's own fill.sh prints them over the translation 4ac9e169735acaf9… (all of the seat's roots in one cut). By AI agents, Wed Nov 11 2026. No macro, syntax, notation, axiom, sorry.
-/
import Derived.Test.Qxb6617169aChecked
import GoSem.Claim
import GoSem.ClaimJoined
import GoSem.ClaimMapViews
import Derived.JoinedTies
import Derived.KernelRfl
namespace Go.Proofs.Qxb6617169a
/- THE CELL 'sum', in the pinned program and in every row, IS THE sha256 OF THE DUMP (.gsa) THAT Qxb6617169aProg.lean LOADS. Nothing in Lean hashes anything: it is a label: what it is worth is what the hold of that sum in a sandbox is worth. -/
noncomputable def Try.pinned : Pinned := { name := "qxb6617169a", sum := "4ac9e169735acaf920a01cdef3d7a4774ccec44f8092716e0655cb6015caf2df", checked := Try.checked }
namespace Rows
def none {H : Type} : Left H := { results := [], args := [] }

/-- 'zzlaws_root_b1.FnRelateMatchesCountModel': WHATEVER THE INPUT: true; the input reads as it did. -/
def fnRelateMatchesCountModelSpec : ChangeSpec := { name := "fnRelateMatchesCountModel", fn := fun _ => fun
  | [d1, d2, d3, d4] => { results := [.lit (.bool true)], args := [d1, d2, d3, d4] }
  | _ => none }
def fnRelateMatchesCountModelRow : OpenClaim := { program := "qxb6617169a", sum := "4ac9e169735acaf920a01cdef3d7a4774ccec44f8092716e0655cb6015caf2df", func := "example.com/beforehand/beforehand/zzlaws_root_b1.FnRelateMatchesCountModel", spec := "fnRelateMatchesCountModel", unfollowed := true, recurses := true, apart := false }
def FnRelateMatchesCountModelSaid : Prop := fnRelateMatchesCountModelRow.holds Try.pinned (OpenSpec.ofChange fnRelateMatchesCountModelSpec)

/-- ITS FALSE NEIGHBOUR: 'it returns false'. Refute it at one input. -/
def fnRelateMatchesCountModelWrong : ChangeSpec := { name := "fnRelateMatchesCountModel", fn := fun _ => fun
  | [d1, d2, d3, d4] => { results := [.lit (.bool false)], args := [d1, d2, d3, d4] }
  | _ => none }
def FnRelateMatchesCountModelWrongFalsely : Prop := fnRelateMatchesCountModelRow.holds Try.pinned (OpenSpec.ofChange fnRelateMatchesCountModelWrong)

/-- 'zzlaws_root_b1.FnRelateSharedRosterAgrees': WHATEVER THE INPUT: true; the input reads as it did. -/
def fnRelateSharedRosterAgreesSpec : ChangeSpec := { name := "fnRelateSharedRosterAgrees", fn := fun _ => fun
  | [d1, d2, d3] => { results := [.lit (.bool true)], args := [d1, d2, d3] }
  | _ => none }
def fnRelateSharedRosterAgreesRow : OpenClaim := { program := "qxb6617169a", sum := "4ac9e169735acaf920a01cdef3d7a4774ccec44f8092716e0655cb6015caf2df", func := "example.com/beforehand/beforehand/zzlaws_root_b1.FnRelateSharedRosterAgrees", spec := "fnRelateSharedRosterAgrees", unfollowed := true, recurses := true, apart := false }
def FnRelateSharedRosterAgreesSaid : Prop := fnRelateSharedRosterAgreesRow.holds Try.pinned (OpenSpec.ofChange fnRelateSharedRosterAgreesSpec)

/-- ITS FALSE NEIGHBOUR: 'it returns false'. Refute it at one input. -/
def fnRelateSharedRosterAgreesWrong : ChangeSpec := { name := "fnRelateSharedRosterAgrees", fn := fun _ => fun
  | [d1, d2, d3] => { results := [.lit (.bool false)], args := [d1, d2, d3] }
  | _ => none }
def FnRelateSharedRosterAgreesWrongFalsely : Prop := fnRelateSharedRosterAgreesRow.holds Try.pinned (OpenSpec.ofChange fnRelateSharedRosterAgreesWrong)

/-- 'zzlaws_root_b1.FnOutrankMatchesCountModel': WHATEVER THE INPUT: true; the input reads as it did. -/
def fnOutrankMatchesCountModelSpec : ChangeSpec := { name := "fnOutrankMatchesCountModel", fn := fun _ => fun
  | [d1, d2, d3, d4] => { results := [.lit (.bool true)], args := [d1, d2, d3, d4] }
  | _ => none }
def fnOutrankMatchesCountModelRow : OpenClaim := { program := "qxb6617169a", sum := "4ac9e169735acaf920a01cdef3d7a4774ccec44f8092716e0655cb6015caf2df", func := "example.com/beforehand/beforehand/zzlaws_root_b1.FnOutrankMatchesCountModel", spec := "fnOutrankMatchesCountModel", unfollowed := true, recurses := true, apart := false }
def FnOutrankMatchesCountModelSaid : Prop := fnOutrankMatchesCountModelRow.holds Try.pinned (OpenSpec.ofChange fnOutrankMatchesCountModelSpec)

/-- ITS FALSE NEIGHBOUR: 'it returns false'. Refute it at one input. -/
def fnOutrankMatchesCountModelWrong : ChangeSpec := { name := "fnOutrankMatchesCountModel", fn := fun _ => fun
  | [d1, d2, d3, d4] => { results := [.lit (.bool false)], args := [d1, d2, d3, d4] }
  | _ => none }
def FnOutrankMatchesCountModelWrongFalsely : Prop := fnOutrankMatchesCountModelRow.holds Try.pinned (OpenSpec.ofChange fnOutrankMatchesCountModelWrong)

/-- 'zzlaws_root_b1.FnUnionIsSortedSetUnion': WHATEVER THE INPUT: true; the input reads as it did. -/
def fnUnionIsSortedSetUnionSpec : ChangeSpec := { name := "fnUnionIsSortedSetUnion", fn := fun _ => fun
  | [d1, d2, d3, d4] => { results := [.lit (.bool true)], args := [d1, d2, d3, d4] }
  | _ => none }
def fnUnionIsSortedSetUnionRow : OpenClaim := { program := "qxb6617169a", sum := "4ac9e169735acaf920a01cdef3d7a4774ccec44f8092716e0655cb6015caf2df", func := "example.com/beforehand/beforehand/zzlaws_root_b1.FnUnionIsSortedSetUnion", spec := "fnUnionIsSortedSetUnion", apart := false }
def FnUnionIsSortedSetUnionSaid : Prop := fnUnionIsSortedSetUnionRow.holds Try.pinned (OpenSpec.ofChange fnUnionIsSortedSetUnionSpec)

/-- ITS FALSE NEIGHBOUR: 'it returns false'. Refute it at one input. -/
def fnUnionIsSortedSetUnionWrong : ChangeSpec := { name := "fnUnionIsSortedSetUnion", fn := fun _ => fun
  | [d1, d2, d3, d4] => { results := [.lit (.bool false)], args := [d1, d2, d3, d4] }
  | _ => none }
def FnUnionIsSortedSetUnionWrongFalsely : Prop := fnUnionIsSortedSetUnionRow.holds Try.pinned (OpenSpec.ofChange fnUnionIsSortedSetUnionWrong)

end Rows
end Go.Proofs.Qxb6617169a
