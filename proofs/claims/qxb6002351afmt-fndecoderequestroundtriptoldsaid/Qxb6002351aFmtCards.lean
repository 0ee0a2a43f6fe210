/-
  DERIVED. GIVEN WITH THE SEED: THE CARDS: each row of Qxb6002351aFmtRows.lean that lists a variable, with what it lists TIED to the program's text (the seventh form; the later family's looks); each row that meets fmt, with fmt's text TOLD by the authors' own Lean function (tested against real Go, not proved from fmt's source: count such statements apart). THE CARD IS WHAT COUNTS. Prove the row's statement (the work); the ties are given (Qxb6002351aFmtTie.lean); close each card by the builder's one call (the guide's Derived/Test/ToyasCard.lean, 'card_holds'). Laid BY PROGRAM, IN A SANDBOX (cutbox-door.mjs). By AI agents, Wed Nov 11 2026. No macro, syntax, notation, axiom, sorry.
-/
import Derived.Test.Qxb6002351aFmtRows
import GoSem.ClaimSeven
namespace Go.Proofs.Qxb6002351aFmt
namespace Rows

/-- THE TOLD CARD OF 'zzlaws_pkg_grid_g1.FnDecodeRequestRoundTrip'. -/
def fnDecodeRequestRoundTripCard : Claim7 := { stood := { row := fnDecodeRequestRoundTripRow, standIns := [], harness := (true, "2fa844d6e9b3bee4acd1aeeb0a663194a0d990350c29db704d0cc12e24166705"), looks := false }, told := true, goes := false }
def FnDecodeRequestRoundTripToldSaid : Prop := Claim7.holds Tryf.pinned (.plain (OpenSpec.ofChange fnDecodeRequestRoundTripSpec)) fnDecodeRequestRoundTripCard
/-- ITS FALSE NEIGHBOUR. Refute it at one input. -/
def FnDecodeRequestRoundTripToldWrongFalsely : Prop := Claim7.holds Tryf.pinned (.plain (OpenSpec.ofChange fnDecodeRequestRoundTripWrong)) fnDecodeRequestRoundTripCard

/-- THE TOLD CARD OF 'zzlaws_pkg_grid_g1.FnDecodeRequestRefusesCutOrExtra'. -/
def fnDecodeRequestRefusesCutOrExtraCard : Claim7 := { stood := { row := fnDecodeRequestRefusesCutOrExtraRow, standIns := [], harness := (true, "2fa844d6e9b3bee4acd1aeeb0a663194a0d990350c29db704d0cc12e24166705"), looks := false }, told := true, goes := false }
def FnDecodeRequestRefusesCutOrExtraToldSaid : Prop := Claim7.holds Tryf.pinned (.plain (OpenSpec.ofChange fnDecodeRequestRefusesCutOrExtraSpec)) fnDecodeRequestRefusesCutOrExtraCard
/-- ITS FALSE NEIGHBOUR. Refute it at one input. -/
def FnDecodeRequestRefusesCutOrExtraToldWrongFalsely : Prop := Claim7.holds Tryf.pinned (.plain (OpenSpec.ofChange fnDecodeRequestRefusesCutOrExtraWrong)) fnDecodeRequestRefusesCutOrExtraCard

/-- THE TOLD CARD OF 'zzlaws_pkg_grid_g1.FnDecodeRequestAcceptsOnlyEncodings'. -/
def fnDecodeRequestAcceptsOnlyEncodingsCard : Claim7 := { stood := { row := fnDecodeRequestAcceptsOnlyEncodingsRow, standIns := [], harness := (true, "2fa844d6e9b3bee4acd1aeeb0a663194a0d990350c29db704d0cc12e24166705"), looks := false }, told := true, goes := false }
def FnDecodeRequestAcceptsOnlyEncodingsToldSaid : Prop := Claim7.holds Tryf.pinned (.plain (OpenSpec.ofChange fnDecodeRequestAcceptsOnlyEncodingsSpec)) fnDecodeRequestAcceptsOnlyEncodingsCard
/-- ITS FALSE NEIGHBOUR. Refute it at one input. -/
def FnDecodeRequestAcceptsOnlyEncodingsToldWrongFalsely : Prop := Claim7.holds Tryf.pinned (.plain (OpenSpec.ofChange fnDecodeRequestAcceptsOnlyEncodingsWrong)) fnDecodeRequestAcceptsOnlyEncodingsCard
end Rows
end Go.Proofs.Qxb6002351aFmt
