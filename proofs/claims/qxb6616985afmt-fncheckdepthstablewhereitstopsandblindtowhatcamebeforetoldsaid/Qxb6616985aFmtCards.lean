/-
  DERIVED. GIVEN WITH THE SEED: THE CARDS: each row of Qxb6616985aFmtRows.lean that lists a variable, with what it lists TIED to the program's text (the seventh form; the later family's looks); each row that meets fmt, with fmt's text TOLD by the authors' own Lean function (tested against real Go, not proved from fmt's source: count such statements apart). THE CARD IS WHAT COUNTS. Prove the row's statement (the work); the ties are given (Qxb6616985aFmtTie.lean); close each card by the builder's one call (the guide's Derived/Test/ToyasCard.lean, 'card_holds'). Laid BY PROGRAM, IN A SANDBOX (cutbox-door.mjs). By AI agents, Wed Nov 11 2026. No macro, syntax, notation, axiom, sorry.
-/
import Derived.Test.Qxb6616985aFmtRows
import GoSem.ClaimSeven
namespace Go.Proofs.Qxb6616985aFmt
namespace Rows

/-- THE TOLD CARD OF 'zzlaws_internal_jsonread_b1.FnCheckDepthRefusesExactlyAnOpeningAtTheLimit'. -/
def fnCheckDepthRefusesExactlyAnOpeningAtTheLimitCard : Claim7 := { stood := { row := fnCheckDepthRefusesExactlyAnOpeningAtTheLimitRow, standIns := [], harness := (true, "98413323b755bfd8c2a69483d973d070adda42c797dd0191adf733e5a72f6314"), looks := false }, told := true, goes := false }
def FnCheckDepthRefusesExactlyAnOpeningAtTheLimitToldSaid : Prop := Claim7.holds Tryf.pinned (.plain (OpenSpec.ofChange fnCheckDepthRefusesExactlyAnOpeningAtTheLimitSpec)) fnCheckDepthRefusesExactlyAnOpeningAtTheLimitCard
/-- ITS FALSE NEIGHBOUR. Refute it at one input. -/
def FnCheckDepthRefusesExactlyAnOpeningAtTheLimitToldWrongFalsely : Prop := Claim7.holds Tryf.pinned (.plain (OpenSpec.ofChange fnCheckDepthRefusesExactlyAnOpeningAtTheLimitWrong)) fnCheckDepthRefusesExactlyAnOpeningAtTheLimitCard

/-- THE TOLD CARD OF 'zzlaws_internal_jsonread_b1.FnCheckDepthStableWhereItStopsAndBlindToWhatCameBefore'. -/
def fnCheckDepthStableWhereItStopsAndBlindToWhatCameBeforeCard : Claim7 := { stood := { row := fnCheckDepthStableWhereItStopsAndBlindToWhatCameBeforeRow, standIns := [], harness := (true, "98413323b755bfd8c2a69483d973d070adda42c797dd0191adf733e5a72f6314"), looks := false }, told := true, goes := false }
def FnCheckDepthStableWhereItStopsAndBlindToWhatCameBeforeToldSaid : Prop := Claim7.holds Tryf.pinned (.plain (OpenSpec.ofChange fnCheckDepthStableWhereItStopsAndBlindToWhatCameBeforeSpec)) fnCheckDepthStableWhereItStopsAndBlindToWhatCameBeforeCard
/-- ITS FALSE NEIGHBOUR. Refute it at one input. -/
def FnCheckDepthStableWhereItStopsAndBlindToWhatCameBeforeToldWrongFalsely : Prop := Claim7.holds Tryf.pinned (.plain (OpenSpec.ofChange fnCheckDepthStableWhereItStopsAndBlindToWhatCameBeforeWrong)) fnCheckDepthStableWhereItStopsAndBlindToWhatCameBeforeCard
end Rows
end Go.Proofs.Qxb6616985aFmt
