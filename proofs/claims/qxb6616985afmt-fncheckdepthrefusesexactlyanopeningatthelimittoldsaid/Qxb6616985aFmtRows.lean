/-
  No cell of these rows narrows 'for every input' (looked for: loops, veiled, ifaces, maps, wideKeys, modest, calm, conditions, laid).
  DERIVED. THE GIVEN ROWS OF THIS SEAT. 2 by the template 'for every input the law returns true; each argument reads behind the call as it read before'; 0 by the template 'total and deterministic' (their statements: Qxb6616985aFmtTotals.lean).
  GIVEN WITH THE SEED: the statements are not yours to turn. If you find one false, say at which input.
  Laid BY PROGRAM, IN A SANDBOX (cutbox-rows.mjs): the forced cells as the released guide's own fill.sh prints them over the translation ea454323df084621… (all of the seat's roots in one cut). By AI agents, Wed Nov 11 2026. No macro, syntax, notation, axiom, sorry.
-/
import Derived.Test.Qxb6616985aFmtChecked
import GoSem.Claim
import GoSem.ClaimJoined
import GoSem.ClaimMapViews
import Derived.JoinedTies
import Derived.KernelRfl
namespace Go.Proofs.Qxb6616985aFmt
/- THE CELL 'sum', in the pinned program and in every row, IS THE sha256 OF THE DUMP (.gsa) THAT Qxb6616985aFmtProg.lean LOADS. Nothing in Lean hashes anything: it is a label: what it is worth is what the hold of that sum in a sandbox is worth. -/
noncomputable def Tryf.pinned : Pinned := { name := "qxb6616985afmt", sum := "ea454323df084621ab5f35899337dc9c823a3fda48d34f1c95c94db735c776cb", checked := Tryf.checked }
namespace Rows
def none {H : Type} : Left H := { results := [], args := [] }

/-- 'zzlaws_internal_jsonread_b1.FnCheckDepthRefusesExactlyAnOpeningAtTheLimit': WHATEVER THE INPUT: true; the input reads as it did. -/
def fnCheckDepthRefusesExactlyAnOpeningAtTheLimitSpec : ChangeSpec := { name := "fnCheckDepthRefusesExactlyAnOpeningAtTheLimit", fn := fun _ => fun
  | [d1, d2, d3] => { results := [.lit (.bool true)], args := [d1, d2, d3] }
  | _ => none }
def fnCheckDepthRefusesExactlyAnOpeningAtTheLimitRow : OpenClaim := { program := "qxb6616985afmt", sum := "ea454323df084621ab5f35899337dc9c823a3fda48d34f1c95c94db735c776cb", func := "example.com/keelstone/keelstone/zzlaws_internal_jsonread_b1.FnCheckDepthRefusesExactlyAnOpeningAtTheLimit", spec := "fnCheckDepthRefusesExactlyAnOpeningAtTheLimit", stops := ["fmt.errorf"], inPlace := ["fmt.errorf"], apart := false }
/-- NO THEOREM (fmt's text is open here; it may be false): for the released tool's asking of the row's closed facts alone. THE STATEMENT IS 'FnCheckDepthRefusesExactlyAnOpeningAtTheLimitToldSaid' (Qxb6616985aFmtCards.lean). -/
def FnCheckDepthRefusesExactlyAnOpeningAtTheLimitFormAsk : Prop := fnCheckDepthRefusesExactlyAnOpeningAtTheLimitRow.holds Tryf.pinned (OpenSpec.ofChange fnCheckDepthRefusesExactlyAnOpeningAtTheLimitSpec)

/-- ITS FALSE NEIGHBOUR: 'it returns false'. Refute it at one input. -/
def fnCheckDepthRefusesExactlyAnOpeningAtTheLimitWrong : ChangeSpec := { name := "fnCheckDepthRefusesExactlyAnOpeningAtTheLimit", fn := fun _ => fun
  | [d1, d2, d3] => { results := [.lit (.bool false)], args := [d1, d2, d3] }
  | _ => none }
def FnCheckDepthRefusesExactlyAnOpeningAtTheLimitWrongFormAsk : Prop := fnCheckDepthRefusesExactlyAnOpeningAtTheLimitRow.holds Tryf.pinned (OpenSpec.ofChange fnCheckDepthRefusesExactlyAnOpeningAtTheLimitWrong)

/-- 'zzlaws_internal_jsonread_b1.FnCheckDepthStableWhereItStopsAndBlindToWhatCameBefore': WHATEVER THE INPUT: true; the input reads as it did. -/
def fnCheckDepthStableWhereItStopsAndBlindToWhatCameBeforeSpec : ChangeSpec := { name := "fnCheckDepthStableWhereItStopsAndBlindToWhatCameBefore", fn := fun _ => fun
  | [d1, d2, d3] => { results := [.lit (.bool true)], args := [d1, d2, d3] }
  | _ => none }
def fnCheckDepthStableWhereItStopsAndBlindToWhatCameBeforeRow : OpenClaim := { program := "qxb6616985afmt", sum := "ea454323df084621ab5f35899337dc9c823a3fda48d34f1c95c94db735c776cb", func := "example.com/keelstone/keelstone/zzlaws_internal_jsonread_b1.FnCheckDepthStableWhereItStopsAndBlindToWhatCameBefore", spec := "fnCheckDepthStableWhereItStopsAndBlindToWhatCameBefore", stops := ["fmt.errorf"], inPlace := ["fmt.errorf"], apart := false }
/-- NO THEOREM (fmt's text is open here; it may be false): for the released tool's asking of the row's closed facts alone. THE STATEMENT IS 'FnCheckDepthStableWhereItStopsAndBlindToWhatCameBeforeToldSaid' (Qxb6616985aFmtCards.lean). -/
def FnCheckDepthStableWhereItStopsAndBlindToWhatCameBeforeFormAsk : Prop := fnCheckDepthStableWhereItStopsAndBlindToWhatCameBeforeRow.holds Tryf.pinned (OpenSpec.ofChange fnCheckDepthStableWhereItStopsAndBlindToWhatCameBeforeSpec)

/-- ITS FALSE NEIGHBOUR: 'it returns false'. Refute it at one input. -/
def fnCheckDepthStableWhereItStopsAndBlindToWhatCameBeforeWrong : ChangeSpec := { name := "fnCheckDepthStableWhereItStopsAndBlindToWhatCameBefore", fn := fun _ => fun
  | [d1, d2, d3] => { results := [.lit (.bool false)], args := [d1, d2, d3] }
  | _ => none }
def FnCheckDepthStableWhereItStopsAndBlindToWhatCameBeforeWrongFormAsk : Prop := fnCheckDepthStableWhereItStopsAndBlindToWhatCameBeforeRow.holds Tryf.pinned (OpenSpec.ofChange fnCheckDepthStableWhereItStopsAndBlindToWhatCameBeforeWrong)

end Rows
end Go.Proofs.Qxb6616985aFmt
