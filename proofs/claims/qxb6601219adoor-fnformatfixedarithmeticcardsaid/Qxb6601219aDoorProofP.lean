/-
  Seat b6601219aD: FnFormatFixedParsesBack: the row and the tied card.
-/
import Derived.Test.Qxb6601219aDoorLawP
import Derived.Test.Qxb6601219aDoorTie
import Derived.Test.Qxb6601219aDoorCards
import Derived.ProofKit
import Derived.LaidMore
import Derived.OpenShut
import Derived.Stop.Joined
import Derived.Stop.LaidErr
import Derived.SevenTiedAt
import Derived.Lib.LaidTab
import Derived.Below
namespace Go.Proofs.Qxb6601219aDoor
open Go.ChangeShapes Go.WideShapes Go.ChangeAt Go.RowKit

theorem own : ownKnob Tryd.prog.godebug = none := by kernel_rfl

/-- What the rows list. -/
def laid3 : List (String × DataW Unit) := Rows.fnFormatFixedParsesBackRow.laid

theorem door_met (os : Os) (args : Array Value) : laidMetH Tryd.prog laid3 ((World.doorLaid Tryd.prog 24 os).forCall (fun _ _ => 0) ⟨#[], args, []⟩).memory :=
  laidMetH_of_parts3 (fuel := 8) (laidMet_of_run' 8 (by kernel_rfl) (by kernel_rfl)) (by kernel_rfl) (by kernel_rfl)

theorem tabData_is : (Rows.laid_internal_strconv_uint64pow10 : DataW Unit) = Lib.tabData .u64 Lib.pow10Tab := by kernel_rfl

theorem of_laid {W : World} (h : laidMetH Tryd.prog laid3 W) : Lib.TabIs Tryd.prog W Tryd.tabName .u64 Lib.pow10Tab := by
  rw [MakeChecks.laidMetH_plain _ _ _ (by kernel_rfl)] at h
  have h3 : laidMet Tryd.prog [(Tryd.tabName, Rows.laid_internal_strconv_uint64pow10)] W := (laidMet.tail (laidMet.tail h))
  rw [tabData_is] at h3
  exact Lib.tabIs_of_head (g := 0) (t := 45) (e := 23) (n := 20) (by kernel_rfl) (by kernel_rfl) Tryd.underlying45 Tryd.underlying23 (by kernel_rfl) (by kernel_rfl) h3

set_option maxRecDepth 100000 in
theorem liftedP (os : Os) (started : os.Started) (H : Type) (enc : TypeId × Value → H) :
    ReturnsInHanded {} Tryd.checked os 4 .any (fun w args => (Rows.fnFormatFixedParsesBackSpec.pre enc Tryd.prog Tryd.f4 [] false w args ∧ laidMetH Tryd.prog laid3 w) ∧ sizedMet enc Tryd.prog Tryd.f4 (OpenSpec.ofChange Rows.fnFormatFixedParsesBackSpec) false w args)
      (Rows.fnFormatFixedParsesBackSpec.post enc Tryd.prog Tryd.f4 false true false false) := by
  refine returnsInHanded_of_change_and (C := Tryd.checked) (X := fun w _ => laidMetH Tryd.prog laid3 w) (fun _ _ _ hh h => h.of_heap hh) own started (by kernel_rfl) Tryd.func4
    (ChangeSpec.witness_shaped (enc := enc) (C := Tryd.checked) (os := os) (X := fun w _ => laidMetH Tryd.prog laid3 w) false (World.doorLaid Tryd.prog 24 os) #[.int .i64 0, .int .i64 0, .int .u8 0] 8 rfl (World.shaped_of_RefB (by kernel_rfl) (by kernel_rfl)) (by kernel_rfl) (by kernel_rfl) (by kernel_rfl) (door_met os _)) ?_
  intro W base args ds gs before hval0 hW _ _ hL _
  have hval : ∀ (j : Nat) t v, Tryd.f4.params[j]? = some t → args[j]? = some v → Value.okWide Tryd.prog W .any base t v := hval0
  have hW' := hW
  obtain ⟨p, q, hA0, hV, rfl, hfz, hnd⟩ := hW
  have hA : DataW.TrodAll enc Tryd.prog W 0 (fun _ => true) true Tryd.f4.params.toList args.toList ds p := hA0
  rw [Tryd.params4] at hA hval
  obtain ⟨v0, v1, v2, d0, d1, d2, p0, p1, p2, rfl, rfl, rfl, h0, h1, h2⟩ := trodAll_three hA
  obtain ⟨rfl, rfl⟩ := trodVars_none hV
  obtain ⟨n, rfl, rfl, rfl, w0⟩ := open_int Tryd.underlying2 (hval 0 2 v0 rfl rfl) h0
  obtain ⟨pl, rfl, rfl, rfl, w1⟩ := open_int Tryd.underlying3 (hval 1 3 v1 rfl rfl) h1
  obtain ⟨mk, rfl, rfl, rfl, w2⟩ := open_int Tryd.underlying5 (hval 2 5 v2 rfl rfl) h2
  have htab := of_laid hL
  have bn := bounds_i64 w0
  have bm := bounds_u8 w2
  obtain ⟨m, rfl⟩ : ∃ m : Nat, mk = (m : Int) := ⟨mk.toNat, by omega⟩
  clear hA0 hval0
  simp only [List.append_nil] at hW'
  refine (lawP_any n pl m (by omega) (by omega) (by omega) W htab).mono fun e W' ⟨he, bel⟩ => ?_
  subst he
  exact ⟨_, rfl, _, _, _, [], [], [], hW', trodAll_mk1 (shut_bool Tryd.underlying4 _), (trodAll_cons_mk (shut_int Tryd.underlying2 w0) (trodAll_cons_mk (shut_int Tryd.underlying3 w1) (trodAll_cons_mk (shut_int Tryd.underlying5 w2) trodAll_mk0))), rfl, bel.frame _, fun h => by cases h⟩

theorem parses_back_row : Rows.FnFormatFixedParsesBackSaid :=
  OpenClaim.holds_of_wide 4 Tryd.f4 rfl rfl rfl rfl rfl rfl rfl ⟨rfl, rfl, rfl, rfl, rfl⟩ rfl rfl rfl rfl rfl (by kernel_rfl) Tryd.func4 (by kernel_rfl)
    (of_decide_eq_true (by kernel_rfl)) (by unfold Func.isWrapper; first | (rw [if_pos (by decide +kernel)]; kernel_rfl) | (rw [if_neg (by decide +kernel)]; exact ⟨rfl, rfl⟩))
    (fun os started H enc _ => liftedP os started H enc)

/-- THE STATEMENT: the tied card. -/
theorem parses_back_card : Rows.FnFormatFixedParsesBackCardSaid :=
  Claim7.holds_tied_plain_at .later [] [.data, .data, .data] true Rows.fnFormatFixedParsesBackCard.stood.harness false
    parses_back_row (fun _ h => by cases h) (by kernel_rfl) (fun _ h => by cases h) fnFormatFixedParsesBack_row_tie rfl ⟨rfl, rfl⟩ (by kernel_rfl) rfl
    (fun f fn hf hfn => by
      obtain rfl : f = 4 := Option.some.inj ((show Tryd.prog.funcNamed Rows.fnFormatFixedParsesBackRow.func = some 4 by kernel_rfl).symm.trans hf) |>.symm
      obtain rfl : fn = Tryd.f4 := (Option.some.inj (Tryd.func4.symm.trans hfn)).symm
      exact ⟨by kernel_rfl, fun j t ht => by
        rw [Tryd.params4] at ht
        have h3 : t = 2 ∨ t = 3 ∨ t = 5 := by
          rcases j with _ | _ | _ | j
          · left; simpa using ht.symm
          · right; left; simpa using ht.symm
          · right; right; simpa using ht.symm
          · simp at ht
        rcases h3 with rfl | rfl | rfl
        · exact (show Tryd.prog.wantsStandIn 2 = false by kernel_rfl)
        · exact (show Tryd.prog.wantsStandIn 3 = false by kernel_rfl)
        · exact (show Tryd.prog.wantsStandIn 5 = false by kernel_rfl)⟩)
    (by kernel_rfl)
end Go.Proofs.Qxb6601219aDoor
