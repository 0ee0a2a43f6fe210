/-
  No cell of these rows narrows 'for every input' (looked for: loops, veiled, ifaces, maps, wideKeys, modest, calm, conditions, laid).
  DERIVED. THE GIVEN ROWS OF THIS SEAT. 4 by the template 'for every input the law returns true; each argument reads behind the call as it read before'; 0 by the template 'total and deterministic' (their statements: Qxb6600256aTotals.lean).
  GIVEN WITH THE SEED: the statements are not yours to turn. If you find one false, say at which input.
  Laid BY PROGRAM, IN A SANDBOX (cutbox-rows.mjs): the forced cells as the released guide's own fill.sh prints them over the translation b47ae62f17e7a408… (all of the seat's roots in one cut). By AI agents, Wed Nov 11 2026. No macro, syntax, notation, axiom, sorry.
-/
import Derived.Test.Qxb6600256aChecked
import GoSem.Claim
import GoSem.ClaimJoined
import GoSem.ClaimMapViews
import Derived.JoinedTies
import Derived.KernelRfl
namespace Go.Proofs.Qxb6600256a
/- THE CELL 'sum', in the pinned program and in every row, IS THE sha256 OF THE DUMP (.gsa) THAT Qxb6600256aProg.lean LOADS. Nothing in Lean hashes anything: it is a label: what it is worth is what the hold of that sum in a sandbox is worth. -/
noncomputable def Try.pinned : Pinned := { name := "qxb6600256a", sum := "b47ae62f17e7a408290b44dec1453fc650b544eb29d72324f9616faea637dce5", checked := Try.checked }
namespace Rows
def none {H : Type} : Left H := { results := [], args := [] }

/-- 'zzlaws_internal_jsontext_b1.FnValueEndMatchesGrammar': WHATEVER THE INPUT: true; the input reads as it did. -/
def fnValueEndMatchesGrammarSpec : ChangeSpec := { name := "fnValueEndMatchesGrammar", fn := fun _ => fun
  | [d1, d2] => { results := [.lit (.bool true)], args := [d1, d2] }
  | _ => none }
def fnValueEndMatchesGrammarRow : OpenClaim := { program := "qxb6600256a", sum := "b47ae62f17e7a408290b44dec1453fc650b544eb29d72324f9616faea637dce5", func := "example.com/itemize/itemize/zzlaws_internal_jsontext_b1.FnValueEndMatchesGrammar", spec := "fnValueEndMatchesGrammar", recurses := true, apart := false }
def FnValueEndMatchesGrammarSaid : Prop := fnValueEndMatchesGrammarRow.holds Try.pinned (OpenSpec.ofChange fnValueEndMatchesGrammarSpec)

/-- ITS FALSE NEIGHBOUR: 'it returns false'. Refute it at one input. -/
def fnValueEndMatchesGrammarWrong : ChangeSpec := { name := "fnValueEndMatchesGrammar", fn := fun _ => fun
  | [d1, d2] => { results := [.lit (.bool false)], args := [d1, d2] }
  | _ => none }
def FnValueEndMatchesGrammarWrongFalsely : Prop := fnValueEndMatchesGrammarRow.holds Try.pinned (OpenSpec.ofChange fnValueEndMatchesGrammarWrong)

/-- 'zzlaws_internal_jsontext_b1.FnValueEndOfWholeDocument': WHATEVER THE INPUT: true; the input reads as it did. -/
def fnValueEndOfWholeDocumentSpec : ChangeSpec := { name := "fnValueEndOfWholeDocument", fn := fun _ => fun
  | [d] => { results := [.lit (.bool true)], args := [d] }
  | _ => none }
def fnValueEndOfWholeDocumentRow : OpenClaim := { program := "qxb6600256a", sum := "b47ae62f17e7a408290b44dec1453fc650b544eb29d72324f9616faea637dce5", func := "example.com/itemize/itemize/zzlaws_internal_jsontext_b1.FnValueEndOfWholeDocument", spec := "fnValueEndOfWholeDocument", recurses := true, apart := false }
def FnValueEndOfWholeDocumentSaid : Prop := fnValueEndOfWholeDocumentRow.holds Try.pinned (OpenSpec.ofChange fnValueEndOfWholeDocumentSpec)

/-- ITS FALSE NEIGHBOUR: 'it returns false'. Refute it at one input. -/
def fnValueEndOfWholeDocumentWrong : ChangeSpec := { name := "fnValueEndOfWholeDocument", fn := fun _ => fun
  | [d] => { results := [.lit (.bool false)], args := [d] }
  | _ => none }
def FnValueEndOfWholeDocumentWrongFalsely : Prop := fnValueEndOfWholeDocumentRow.holds Try.pinned (OpenSpec.ofChange fnValueEndOfWholeDocumentWrong)

/-- 'zzlaws_internal_jsontext_b1.FnRepeatsSaysWhetherSeenBefore': WHATEVER THE INPUT: true; the input reads as it did. -/
def fnRepeatsSaysWhetherSeenBeforeSpec : ChangeSpec := { name := "fnRepeatsSaysWhetherSeenBefore", fn := fun _ => fun
  | [d] => { results := [.lit (.bool true)], args := [d] }
  | _ => none }
def fnRepeatsSaysWhetherSeenBeforeRow : OpenClaim := { program := "qxb6600256a", sum := "b47ae62f17e7a408290b44dec1453fc650b544eb29d72324f9616faea637dce5", func := "example.com/itemize/itemize/zzlaws_internal_jsontext_b1.FnRepeatsSaysWhetherSeenBefore", spec := "fnRepeatsSaysWhetherSeenBefore", apart := false }
def FnRepeatsSaysWhetherSeenBeforeSaid : Prop := fnRepeatsSaysWhetherSeenBeforeRow.holds Try.pinned (OpenSpec.ofChange fnRepeatsSaysWhetherSeenBeforeSpec)

/-- ITS FALSE NEIGHBOUR: 'it returns false'. Refute it at one input. -/
def fnRepeatsSaysWhetherSeenBeforeWrong : ChangeSpec := { name := "fnRepeatsSaysWhetherSeenBefore", fn := fun _ => fun
  | [d] => { results := [.lit (.bool false)], args := [d] }
  | _ => none }
def FnRepeatsSaysWhetherSeenBeforeWrongFalsely : Prop := fnRepeatsSaysWhetherSeenBeforeRow.holds Try.pinned (OpenSpec.ofChange fnRepeatsSaysWhetherSeenBeforeWrong)

/-- 'zzlaws_internal_jsontext_b1.FnRepeatsRemembersEveryName': WHATEVER THE INPUT: true; the input reads as it did. -/
def fnRepeatsRemembersEveryNameSpec : ChangeSpec := { name := "fnRepeatsRemembersEveryName", fn := fun _ => fun
  | [d1, d2] => { results := [.lit (.bool true)], args := [d1, d2] }
  | _ => none }
def fnRepeatsRemembersEveryNameRow : OpenClaim := { program := "qxb6600256a", sum := "b47ae62f17e7a408290b44dec1453fc650b544eb29d72324f9616faea637dce5", func := "example.com/itemize/itemize/zzlaws_internal_jsontext_b1.FnRepeatsRemembersEveryName", spec := "fnRepeatsRemembersEveryName", apart := false }
def FnRepeatsRemembersEveryNameSaid : Prop := fnRepeatsRemembersEveryNameRow.holds Try.pinned (OpenSpec.ofChange fnRepeatsRemembersEveryNameSpec)

/-- ITS FALSE NEIGHBOUR: 'it returns false'. Refute it at one input. -/
def fnRepeatsRemembersEveryNameWrong : ChangeSpec := { name := "fnRepeatsRemembersEveryName", fn := fun _ => fun
  | [d1, d2] => { results := [.lit (.bool false)], args := [d1, d2] }
  | _ => none }
def FnRepeatsRemembersEveryNameWrongFalsely : Prop := fnRepeatsRemembersEveryNameRow.holds Try.pinned (OpenSpec.ofChange fnRepeatsRemembersEveryNameWrong)

end Rows
end Go.Proofs.Qxb6600256a
