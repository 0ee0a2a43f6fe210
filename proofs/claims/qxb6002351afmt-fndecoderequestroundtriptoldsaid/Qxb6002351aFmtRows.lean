/-
  No cell of these rows narrows 'for every input' (looked for: loops, veiled, ifaces, maps, wideKeys, modest, calm, conditions, laid).
  DERIVED. THE GIVEN ROWS OF THIS SEAT. 3 by the template 'for every input the law returns true; each argument reads behind the call as it read before'; 0 by the template 'total and deterministic' (their statements: Qxb6002351aFmtTotals.lean).
  GIVEN WITH THE SEED: the statements are not yours to turn. If you find one false, say at which input.
  Laid BY PROGRAM, IN A SANDBOX (cutbox-rows.mjs): the forced cells as the released guide's own fill.sh prints them over the translation cab4de7cb7de7534… (all of the seat's roots in one cut). By AI agents, Wed Nov 11 2026. No macro, syntax, notation, axiom, sorry.
-/
import Derived.Test.Qxb6002351aFmtChecked
import GoSem.Claim
import GoSem.ClaimJoined
import GoSem.ClaimMapViews
import Derived.JoinedTies
import Derived.KernelRfl
namespace Go.Proofs.Qxb6002351aFmt
/- THE CELL 'sum', in the pinned program and in every row, IS THE sha256 OF THE DUMP (.gsa) THAT Qxb6002351aFmtProg.lean LOADS. Nothing in Lean hashes anything: it is a label: what it is worth is what the hold of that sum in a sandbox is worth. -/
noncomputable def Tryf.pinned : Pinned := { name := "qxb6002351afmt", sum := "cab4de7cb7de753413cfc6acc29f82e22a7eaf4b44e4440bf19ae5696b26a0a0", checked := Tryf.checked }
namespace Rows
def none {H : Type} : Left H := { results := [], args := [] }

/-- 'zzlaws_pkg_grid_g1.FnDecodeRequestRoundTrip': WHATEVER THE INPUT: true; the input reads as it did. -/
def fnDecodeRequestRoundTripSpec : ChangeSpec := { name := "fnDecodeRequestRoundTrip", fn := fun _ => fun
  | [d1, d2, d3, d4, d5, d6, d7, d8, d9, d10, d11, d12] => { results := [.lit (.bool true)], args := [d1, d2, d3, d4, d5, d6, d7, d8, d9, d10, d11, d12] }
  | _ => none }
def fnDecodeRequestRoundTripRow : OpenClaim := { program := "qxb6002351afmt", sum := "cab4de7cb7de753413cfc6acc29f82e22a7eaf4b44e4440bf19ae5696b26a0a0", func := "example.com/gridloom/gridloom/zzlaws_pkg_grid_g1.FnDecodeRequestRoundTrip", spec := "fnDecodeRequestRoundTrip", stops := ["fmt.errorf"], inPlace := ["fmt.errorf"], named := ["encoding/binary.BigEndian"], apart := false }
/-- NO THEOREM (fmt's text is open here; it may be false): for the released tool's asking of the row's closed facts alone. THE STATEMENT IS 'FnDecodeRequestRoundTripToldSaid' (Qxb6002351aFmtCards.lean). -/
def FnDecodeRequestRoundTripFormAsk : Prop := fnDecodeRequestRoundTripRow.holds Tryf.pinned (OpenSpec.ofChange fnDecodeRequestRoundTripSpec)

/-- ITS FALSE NEIGHBOUR: 'it returns false'. Refute it at one input. -/
def fnDecodeRequestRoundTripWrong : ChangeSpec := { name := "fnDecodeRequestRoundTrip", fn := fun _ => fun
  | [d1, d2, d3, d4, d5, d6, d7, d8, d9, d10, d11, d12] => { results := [.lit (.bool false)], args := [d1, d2, d3, d4, d5, d6, d7, d8, d9, d10, d11, d12] }
  | _ => none }
def FnDecodeRequestRoundTripWrongFormAsk : Prop := fnDecodeRequestRoundTripRow.holds Tryf.pinned (OpenSpec.ofChange fnDecodeRequestRoundTripWrong)

/-- 'zzlaws_pkg_grid_g1.FnDecodeRequestRefusesCutOrExtra': WHATEVER THE INPUT: true; the input reads as it did. -/
def fnDecodeRequestRefusesCutOrExtraSpec : ChangeSpec := { name := "fnDecodeRequestRefusesCutOrExtra", fn := fun _ => fun
  | [d1, d2, d3, d4, d5, d6, d7, d8, d9, d10, d11, d12] => { results := [.lit (.bool true)], args := [d1, d2, d3, d4, d5, d6, d7, d8, d9, d10, d11, d12] }
  | _ => none }
def fnDecodeRequestRefusesCutOrExtraRow : OpenClaim := { program := "qxb6002351afmt", sum := "cab4de7cb7de753413cfc6acc29f82e22a7eaf4b44e4440bf19ae5696b26a0a0", func := "example.com/gridloom/gridloom/zzlaws_pkg_grid_g1.FnDecodeRequestRefusesCutOrExtra", spec := "fnDecodeRequestRefusesCutOrExtra", stops := ["fmt.errorf"], inPlace := ["fmt.errorf"], named := ["encoding/binary.BigEndian"], apart := false }
/-- NO THEOREM (fmt's text is open here; it may be false): for the released tool's asking of the row's closed facts alone. THE STATEMENT IS 'FnDecodeRequestRefusesCutOrExtraToldSaid' (Qxb6002351aFmtCards.lean). -/
def FnDecodeRequestRefusesCutOrExtraFormAsk : Prop := fnDecodeRequestRefusesCutOrExtraRow.holds Tryf.pinned (OpenSpec.ofChange fnDecodeRequestRefusesCutOrExtraSpec)

/-- ITS FALSE NEIGHBOUR: 'it returns false'. Refute it at one input. -/
def fnDecodeRequestRefusesCutOrExtraWrong : ChangeSpec := { name := "fnDecodeRequestRefusesCutOrExtra", fn := fun _ => fun
  | [d1, d2, d3, d4, d5, d6, d7, d8, d9, d10, d11, d12] => { results := [.lit (.bool false)], args := [d1, d2, d3, d4, d5, d6, d7, d8, d9, d10, d11, d12] }
  | _ => none }
def FnDecodeRequestRefusesCutOrExtraWrongFormAsk : Prop := fnDecodeRequestRefusesCutOrExtraRow.holds Tryf.pinned (OpenSpec.ofChange fnDecodeRequestRefusesCutOrExtraWrong)

/-- 'zzlaws_pkg_grid_g1.FnDecodeRequestAcceptsOnlyEncodings': WHATEVER THE INPUT: true; the input reads as it did. -/
def fnDecodeRequestAcceptsOnlyEncodingsSpec : ChangeSpec := { name := "fnDecodeRequestAcceptsOnlyEncodings", fn := fun _ => fun
  | [d] => { results := [.lit (.bool true)], args := [d] }
  | _ => none }
def fnDecodeRequestAcceptsOnlyEncodingsRow : OpenClaim := { program := "qxb6002351afmt", sum := "cab4de7cb7de753413cfc6acc29f82e22a7eaf4b44e4440bf19ae5696b26a0a0", func := "example.com/gridloom/gridloom/zzlaws_pkg_grid_g1.FnDecodeRequestAcceptsOnlyEncodings", spec := "fnDecodeRequestAcceptsOnlyEncodings", stops := ["fmt.errorf"], inPlace := ["fmt.errorf"], named := ["encoding/binary.BigEndian"], apart := false }
/-- NO THEOREM (fmt's text is open here; it may be false): for the released tool's asking of the row's closed facts alone. THE STATEMENT IS 'FnDecodeRequestAcceptsOnlyEncodingsToldSaid' (Qxb6002351aFmtCards.lean). -/
def FnDecodeRequestAcceptsOnlyEncodingsFormAsk : Prop := fnDecodeRequestAcceptsOnlyEncodingsRow.holds Tryf.pinned (OpenSpec.ofChange fnDecodeRequestAcceptsOnlyEncodingsSpec)

/-- ITS FALSE NEIGHBOUR: 'it returns false'. Refute it at one input. -/
def fnDecodeRequestAcceptsOnlyEncodingsWrong : ChangeSpec := { name := "fnDecodeRequestAcceptsOnlyEncodings", fn := fun _ => fun
  | [d] => { results := [.lit (.bool false)], args := [d] }
  | _ => none }
def FnDecodeRequestAcceptsOnlyEncodingsWrongFormAsk : Prop := fnDecodeRequestAcceptsOnlyEncodingsRow.holds Tryf.pinned (OpenSpec.ofChange fnDecodeRequestAcceptsOnlyEncodingsWrong)

end Rows
end Go.Proofs.Qxb6002351aFmt
