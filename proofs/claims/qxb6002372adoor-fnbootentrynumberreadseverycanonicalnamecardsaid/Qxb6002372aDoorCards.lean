/-
  DERIVED. GIVEN WITH THE SEED: THE CARDS: each row of Qxb6002372aDoorRows.lean that lists a variable, with what it lists TIED to the program's text (the seventh form; the later family's looks); each row that meets fmt, with fmt's text TOLD by the authors' own Lean function (tested against real Go, not proved from fmt's source: count such statements apart). THE CARD IS WHAT COUNTS. Prove the row's statement (the work); the ties are given (Qxb6002372aDoorTie.lean); close each card by the builder's one call (the guide's Derived/Test/ToyasCard.lean, 'card_holds'). Laid BY PROGRAM, IN A SANDBOX (cutbox-door.mjs). By AI agents, Wed Nov 11 2026. No macro, syntax, notation, axiom, sorry.
-/
import Derived.Test.Qxb6002372aDoorRows
import GoSem.ClaimSeven
namespace Go.Proofs.Qxb6002372aDoor
namespace Rows

/-- THE TIED CARD OF 'zzlaws_efi_g1.FnBootEntryNumberReadsEveryCanonicalName'. -/
def fnBootEntryNumberReadsEveryCanonicalNameCard : Claim7 := { stood := { row := fnBootEntryNumberReadsEveryCanonicalNameRow, standIns := [], harness := (true, "1e38760bc268ffd3e757e9595d3ea41b8d47d0bc5136195fabe843b16b7a71ac"), looks := true }, kinds := [], alts := [], laidByText := true, laidKinds := [.data, .data, .data, .sentinel, .sentinel], laidTests := true, laidLooks := .later }
def FnBootEntryNumberReadsEveryCanonicalNameCardSaid : Prop := Claim7.holds Tryd.pinned (.plain (OpenSpec.ofChange fnBootEntryNumberReadsEveryCanonicalNameSpec)) fnBootEntryNumberReadsEveryCanonicalNameCard

/-- THE TIED CARD OF 'zzlaws_efi_g1.FnBootEntryNumberAcceptsOnlyCanonicalNames'. -/
def fnBootEntryNumberAcceptsOnlyCanonicalNamesCard : Claim7 := { stood := { row := fnBootEntryNumberAcceptsOnlyCanonicalNamesRow, standIns := [], harness := (true, "1e38760bc268ffd3e757e9595d3ea41b8d47d0bc5136195fabe843b16b7a71ac"), looks := true }, kinds := [], alts := [], laidByText := true, laidKinds := [.data, .data, .data, .sentinel, .sentinel], laidTests := true, laidLooks := .later }
def FnBootEntryNumberAcceptsOnlyCanonicalNamesCardSaid : Prop := Claim7.holds Tryd.pinned (.plain (OpenSpec.ofChange fnBootEntryNumberAcceptsOnlyCanonicalNamesSpec)) fnBootEntryNumberAcceptsOnlyCanonicalNamesCard
end Rows
end Go.Proofs.Qxb6002372aDoor
