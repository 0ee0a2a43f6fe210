/-
  DERIVED. GIVEN WITH THE SEED: THE CARDS: each row of Qxb6601219aDoorRows.lean that lists a variable, with what it lists TIED to the program's text (the seventh form; the later family's looks); each row that meets fmt, with fmt's text TOLD by the authors' own Lean function (tested against real Go, not proved from fmt's source: count such statements apart). THE CARD IS WHAT COUNTS. Prove the row's statement (the work); the ties are given (Qxb6601219aDoorTie.lean); close each card by the builder's one call (the guide's Derived/Test/ToyasCard.lean, 'card_holds'). Laid BY PROGRAM, IN A SANDBOX (cutbox-door.mjs). By AI agents, Wed Nov 11 2026. No macro, syntax, notation, axiom, sorry.
-/
import Derived.Test.Qxb6601219aDoorRows
import GoSem.ClaimSeven
namespace Go.Proofs.Qxb6601219aDoor
namespace Rows

/-- THE TIED CARD OF 'zzlaws_root_b1.FnFormatFixedArithmetic'. -/
def fnFormatFixedArithmeticCard : Claim7 := { stood := { row := fnFormatFixedArithmeticRow, standIns := [], harness := (true, "8076a71baa824620a2199c02a95389b0f30cc522b072130f6c78f8ba3c1ddd94"), looks := false }, kinds := [], alts := [], laidByText := true, laidKinds := [.data, .data, .data], laidTests := true, laidLooks := .later }
def FnFormatFixedArithmeticCardSaid : Prop := Claim7.holds Tryd.pinned (.plain (OpenSpec.ofChange fnFormatFixedArithmeticSpec)) fnFormatFixedArithmeticCard

/-- THE TIED CARD OF 'zzlaws_root_b1.FnFormatFixedParsesBack'. -/
def fnFormatFixedParsesBackCard : Claim7 := { stood := { row := fnFormatFixedParsesBackRow, standIns := [], harness := (true, "8076a71baa824620a2199c02a95389b0f30cc522b072130f6c78f8ba3c1ddd94"), looks := false }, kinds := [], alts := [], laidByText := true, laidKinds := [.data, .data, .data], laidTests := true, laidLooks := .later }
def FnFormatFixedParsesBackCardSaid : Prop := Claim7.holds Tryd.pinned (.plain (OpenSpec.ofChange fnFormatFixedParsesBackSpec)) fnFormatFixedParsesBackCard
end Rows
end Go.Proofs.Qxb6601219aDoor
