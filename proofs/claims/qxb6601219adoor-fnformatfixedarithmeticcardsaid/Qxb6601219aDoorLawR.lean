/-
  Seat b6601219aD: the law FnFormatFixedArithmetic: the walk, the row and the tied card.
-/
import Derived.Test.Qxb6601219aDoorWalkB
import Derived.Test.Qxb6601219aDoorProofP
namespace Go.Proofs.Qxb6601219aDoor
open Go.ChangeShapes Go.WideShapes Go.ChangeAt Go.RowKit
open Go.Lib (nDigits decDigits dg decDigits_length nDigits_pos)
set_option linter.unusedVariables false

set_option maxHeartbeats 1600000 in
set_option maxRecDepth 100000 in
/-- The walk over plain lists: S the sign, D the whole digits, M the mark, F the decimals; 'Q' the whole part. -/
theorem lawR_core (n : Int) (q m Q u : Nat) (hq : q ≤ 65536) (S D M F : List UInt8) (neg : Bool) (w : World) (hu : u < 18446744073709551616)
    (hneg : decide (n < 0) = neg) (hl : S.length ≤ 1) (hl2 : D.length ≤ 20) (hl3 : M.length ≤ 2) (hl4 : F.length ≤ 65536)
    (P10 : Nat) (hP0 : 1 ≤ P10) (hPQ : Hid (q ≤ 19 → Q = u / P10)) (hQ0 : Hid (19 < q → Q = 0))
    (a1 : ∀ W, (Op.stringOp .add (B S) (B D)).run Tryd.prog W = .ok (.string (B (S ++ D))) W)
    (a2 : ∀ W, (Op.stringOp .add (B (S ++ D)) (B M)).run Tryd.prog W = .ok (.string (B (S ++ (D ++ M)))) W)
    (a3 : ∀ W, (Op.stringOp .add (B (S ++ (D ++ M))) (B F)).run Tryd.prog W = .ok (.string (B (S ++ (D ++ (M ++ F))))) W)
    (HF : Hid (Calls Tryd.prog 5 #[.int .i64 n, .int .i64 q, .int .u8 m] w fun e w' => e = .returned (.string (B (S ++ (D ++ (M ++ F))))) ∧ Below w.heap.size w w'))
    (HG : Hid (∀ w, Calls Tryd.prog 6 #[.int .i64 n] w fun e w' => e = .returned (.int .u64 u) ∧ w' = w))
    (HP : Hid (q ≤ 19 → ∀ w, Calls Tryd.prog 7 #[.int .i64 q] w fun e w' => e = .returned (.int .u64 (P10 : Int)) ∧ w' = w))
    (HS : Hid (∀ w, Calls Tryd.prog 8 #[.bool neg] w fun e w' => e = .returned (.string (B S)) ∧ w' = w))
    (HD : Hid (∀ w, Calls Tryd.prog 9 #[.int .u64 Q] w fun e w' => e = .returned (.string (B D)) ∧ Below w.heap.size w w'))
    (HM : Hid (∀ w, Calls Tryd.prog 10 #[.int .u8 m] w fun e w' => e = .returned (.string (B M)) ∧ Below w.heap.size w w'))
    (HL : Hid (∀ w, Calls Tryd.prog 11 #[.int .u64 u, .int .i64 q] w fun e w' => e = .returned (.string (B F)) ∧ Below w.heap.size w w')) :
    Calls Tryd.prog 3 #[.int .i64 n, .int .i64 q, .int .u8 m] w fun e w' => e = .returned (.bool true) ∧ Below w.heap.size w w' := by
  by_cases h19 : q ≤ 19
  · have hP := HP.out h19
    have HP' : Hid (∀ w, Calls Tryd.prog 7 #[.int .i64 q] w fun e w' => e = .returned (.int .u64 (P10 : Int)) ∧ w' = w) := hP
    have hQe := hPQ.out h19
    have hdiv : IntKind.u64.wrap ((u : Int) / (P10 : Int)) = (Q : Int) := by
      rw [hQe, IntKind.wrap_u64]
      have h1 : u / P10 ≤ u := Nat.div_le_self _ _
      have h2 : ((u / P10 : Nat) : Int) = (u : Int) / (P10 : Int) := by simp
      omega
    clear hP hQe HP hPQ hQ0
    go_enter Tryd.func3, Tryd.ntmps3
    go_wp2_with fail
    refine HF.out.mono ?_
    rintro e w1 ⟨rfl, hb1⟩
    have HB1 : Hid (Below w.heap.size w w1) := hb1
    clear hb1
    go_wp2_with fail
    refine (HG.out w1).mono ?_
    rintro e w2 ⟨rfl, hw⟩
    obtain rfl : w1 = w2 := hw.symm
    go_wp2_with fail
    refine (HP'.out w1).mono ?_
    rintro e w2 ⟨rfl, hw⟩
    obtain rfl : w1 = w2 := hw.symm
    go_wp2_with fail
    refine (HS.out w1).mono ?_
    rintro e w2 ⟨rfl, hw⟩
    obtain rfl : w1 = w2 := hw.symm
    go_wp2_with fail
    refine (HD.out w1).mono ?_
    rintro e w3 ⟨rfl, hb3⟩
    have HB3 : Hid (Below w.heap.size w w3) := HB1.out.trans (hb3.mono HB1.out.size)
    clear hb3
    go_wp2_with fail
    refine (HM.out w3).mono ?_
    rintro e w4 ⟨rfl, hb4⟩
    have HB4 : Hid (Below w.heap.size w w4) := HB3.out.trans (hb4.mono HB3.out.size)
    clear hb4
    go_wp2_with fail
    refine (HL.out w4).mono ?_
    rintro e w5 ⟨rfl, hb5⟩
    have HB5 : Hid (Below w.heap.size w w5) := HB4.out.trans (hb5.mono HB4.out.size)
    clear hb5
    go_wp2_with fail
    go_ret
    exact ⟨rfl, HB5.out⟩
  · have hQe := hQ0.out (by omega)
    rw [hQe] at HD
    clear hPQ hQ0 HP
    go_enter Tryd.func3, Tryd.ntmps3
    go_wp2_with fail
    refine HF.out.mono ?_
    rintro e w1 ⟨rfl, hb1⟩
    have HB1 : Hid (Below w.heap.size w w1) := hb1
    clear hb1
    go_wp2_with fail
    refine (HG.out w1).mono ?_
    rintro e w2 ⟨rfl, hw⟩
    obtain rfl : w1 = w2 := hw.symm
    go_wp2_with fail
    refine (HS.out w1).mono ?_
    rintro e w2 ⟨rfl, hw⟩
    obtain rfl : w1 = w2 := hw.symm
    go_wp2_with fail
    refine (HD.out w1).mono ?_
    rintro e w3 ⟨rfl, hb3⟩
    have HB3 : Hid (Below w.heap.size w w3) := HB1.out.trans (hb3.mono HB1.out.size)
    clear hb3
    go_wp2_with fail
    refine (HM.out w3).mono ?_
    rintro e w4 ⟨rfl, hb4⟩
    have HB4 : Hid (Below w.heap.size w w4) := HB3.out.trans (hb4.mono HB3.out.size)
    clear hb4
    go_wp2_with fail
    refine (HL.out w4).mono ?_
    rintro e w5 ⟨rfl, hb5⟩
    have HB5 : Hid (Below w.heap.size w w5) := HB4.out.trans (hb5.mono HB4.out.size)
    clear hb5
    go_wp2_with fail
    go_ret
    exact ⟨rfl, HB5.out⟩

theorem lawR_in (n : Int) (h0 : -9223372036854775808 ≤ n) (h1 : n ≤ 9223372036854775807) (q m : Nat) (hq : q ≤ 65536) (hm : m < 256) (w : World) (htab : Lib.TabIs Tryd.prog w Tryd.tabName .u64 Lib.pow10Tab) :
    Calls Tryd.prog 3 #[.int .i64 n, .int .i64 q, .int .u8 m] w fun e w' => e = .returned (.bool true) ∧ Below w.heap.size w w' := by
  have hml := mark_length m
  have hu : n.natAbs < 18446744073709551616 := by omega
  have hdl := nd20 (u := n.natAbs / 10 ^ q) (Nat.lt_of_le_of_lt (Nat.div_le_self _ _) hu)
  have hsl : (signText (decide (n < 0))).length ≤ 1 := by unfold signText; split <;> simp
  have hD : (decDigits (n.natAbs / 10 ^ q)).length ≤ 20 := by rw [decDigits_length]; exact hdl
  have hF : (low n.natAbs q).length ≤ 65536 := by rw [low_length]; exact hq
  have HF := zzfixed_any n h0 h1 q m hq hm w htab
  have et : fixedText (decide (n < 0)) n.natAbs q m = signText (decide (n < 0)) ++ (decDigits (n.natAbs / 10 ^ q) ++ (markText m ++ low n.natAbs q)) := by
    rw [fixedText]; simp
  rw [et] at HF
  refine lawR_core n q m (n.natAbs / 10 ^ q) n.natAbs hq (signText (decide (n < 0))) (decDigits (n.natAbs / 10 ^ q)) (markText m) (low n.natAbs q) (decide (n < 0)) w hu rfl hsl hD hml.2 hF (10 ^ q) (Nat.pow_pos (by omega)) (fun _ => rfl) (fun h => ?_)
    (fun W => add_B _ _ (by omega) W) (fun W => ?_) (fun W => ?_) HF (fun w => magnitude_any n h0 h1 w) (fun h w => pow_any q h w) (fun w => sign_any _ w) (fun w => dec_any _ (Nat.lt_of_le_of_lt (Nat.div_le_self _ _) hu) w) (fun w => mark_any m hm w) (fun w => low_any n.natAbs q hu hq w)
  · apply Nat.div_eq_of_lt
    have h20 : 10 ^ 20 ≤ 10 ^ q := pow_le_of_le (by omega)
    have h2 : (10 : Nat) ^ 20 = 100000000000000000000 := by decide
    omega
  · have := add_B (signText (decide (n < 0)) ++ decDigits (n.natAbs / 10 ^ q)) (markText m) (by simp only [List.length_append]; omega) W
    rw [List.append_assoc] at this
    exact this
  · have := add_B (signText (decide (n < 0)) ++ (decDigits (n.natAbs / 10 ^ q) ++ markText m)) (low n.natAbs q) (by simp only [List.length_append]; omega) W
    rw [List.append_assoc, List.append_assoc] at this
    exact this

set_option maxHeartbeats 400000 in
/-- The law answers true at once. -/
theorem lawR_out (n p : Int) (m : Nat) (h : p < 0 ∨ 65536 < p) (w : World) :
    Calls Tryd.prog 3 #[.int .i64 n, .int .i64 p, .int .u8 m] w fun e w' => e = .returned (.bool true) ∧ Below w.heap.size w w' := by
  rcases h with h | h
  · go_enter Tryd.func3, Tryd.ntmps3
    go_wp2
    go_ret
    exact ⟨rfl, Below.refl _ _⟩
  · have h2 : ¬ p < 0 := by omega
    go_enter Tryd.func3, Tryd.ntmps3
    go_wp2
    go_ret
    exact ⟨rfl, Below.refl _ _⟩

theorem lawR_any (n p : Int) (m : Nat) (h0 : -9223372036854775808 ≤ n) (h1 : n ≤ 9223372036854775807) (hm : m < 256) (w : World) (htab : Lib.TabIs Tryd.prog w Tryd.tabName .u64 Lib.pow10Tab) :
    Calls Tryd.prog 3 #[.int .i64 n, .int .i64 p, .int .u8 m] w fun e w' => e = .returned (.bool true) ∧ Below w.heap.size w w' := by
  by_cases h : 0 ≤ p ∧ p ≤ 65536
  · obtain ⟨q, rfl⟩ : ∃ q : Nat, p = q := ⟨p.toNat, by omega⟩
    exact lawR_in n h0 h1 q m (by omega) hm w htab
  · exact lawR_out n p m (by omega) w

set_option maxRecDepth 100000 in
theorem liftedR (os : Os) (started : os.Started) (H : Type) (enc : TypeId × Value → H) :
    ReturnsInHanded {} Tryd.checked os 3 .any (fun w args => (Rows.fnFormatFixedArithmeticSpec.pre enc Tryd.prog Tryd.f3 [] false w args ∧ laidMetH Tryd.prog laid3 w) ∧ sizedMet enc Tryd.prog Tryd.f3 (OpenSpec.ofChange Rows.fnFormatFixedArithmeticSpec) false w args)
      (Rows.fnFormatFixedArithmeticSpec.post enc Tryd.prog Tryd.f3 false true false false) := by
  refine returnsInHanded_of_change_and (C := Tryd.checked) (X := fun w _ => laidMetH Tryd.prog laid3 w) (fun _ _ _ hh h => h.of_heap hh) own started (by kernel_rfl) Tryd.func3
    (ChangeSpec.witness_shaped (enc := enc) (C := Tryd.checked) (os := os) (X := fun w _ => laidMetH Tryd.prog laid3 w) false (World.doorLaid Tryd.prog 24 os) #[.int .i64 0, .int .i64 0, .int .u8 0] 8 rfl (World.shaped_of_RefB (by kernel_rfl) (by kernel_rfl)) (by kernel_rfl) (by kernel_rfl) (by kernel_rfl) (door_met os _)) ?_
  intro W base args ds gs before hval0 hW _ _ hL _
  have hval : ∀ (j : Nat) t v, Tryd.f3.params[j]? = some t → args[j]? = some v → Value.okWide Tryd.prog W .any base t v := hval0
  have hW' := hW
  obtain ⟨p, q, hA0, hV, rfl, hfz, hnd⟩ := hW
  have hA : DataW.TrodAll enc Tryd.prog W 0 (fun _ => true) true Tryd.f3.params.toList args.toList ds p := hA0
  rw [Tryd.params3] at hA hval
  obtain ⟨v0, v1, v2, d0, d1, d2, p0, p1, p2, rfl, rfl, rfl, h0, h1, h2⟩ := trodAll_three hA
  obtain ⟨rfl, rfl⟩ := trodVars_none hV
  obtain ⟨n, rfl, rfl, rfl, w0⟩ := open_int Tryd.underlying2 (hval 0 2 v0 rfl rfl) h0
  obtain ⟨pl, rfl, rfl, rfl, w1⟩ := open_int Tryd.underlying3 (hval 1 3 v1 rfl rfl) h1
  obtain ⟨mk, rfl, rfl, rfl, w2⟩ := open_int Tryd.underlying5 (hval 2 5 v2 rfl rfl) h2
  have htab := of_laid hL
  have bn := bounds_i64 w0
  have bm := bounds_u8 w2
  obtain ⟨m, rfl⟩ : ∃ m : Nat, mk = (m : Int) := ⟨mk.toNat, by omega⟩
  clear hA0 hval0
  simp only [List.append_nil] at hW'
  refine (lawR_any n pl m (by omega) (by omega) (by omega) W htab).mono fun e W' ⟨he, bel⟩ => ?_
  subst he
  exact ⟨_, rfl, _, _, _, [], [], [], hW', trodAll_mk1 (shut_bool Tryd.underlying4 _), (trodAll_cons_mk (shut_int Tryd.underlying2 w0) (trodAll_cons_mk (shut_int Tryd.underlying3 w1) (trodAll_cons_mk (shut_int Tryd.underlying5 w2) trodAll_mk0))), rfl, bel.frame _, fun h => by cases h⟩

theorem arithmetic_row : Rows.FnFormatFixedArithmeticSaid :=
  OpenClaim.holds_of_wide 3 Tryd.f3 rfl rfl rfl rfl rfl rfl rfl ⟨rfl, rfl, rfl, rfl, rfl⟩ rfl rfl rfl rfl rfl (by kernel_rfl) Tryd.func3 (by kernel_rfl)
    (of_decide_eq_true (by kernel_rfl)) (by unfold Func.isWrapper; first | (rw [if_pos (by decide +kernel)]; kernel_rfl) | (rw [if_neg (by decide +kernel)]; exact ⟨rfl, rfl⟩))
    (fun os started H enc _ => liftedR os started H enc)

/-- THE STATEMENT: the tied card. -/
theorem arithmetic_card : Rows.FnFormatFixedArithmeticCardSaid :=
  Claim7.holds_tied_plain_at .later [] [.data, .data, .data] true Rows.fnFormatFixedArithmeticCard.stood.harness false
    arithmetic_row (fun _ h => by cases h) (by kernel_rfl) (fun _ h => by cases h) fnFormatFixedArithmetic_row_tie rfl ⟨rfl, rfl⟩ (by kernel_rfl) rfl
    (fun f fn hf hfn => by
      obtain rfl : f = 3 := Option.some.inj ((show Tryd.prog.funcNamed Rows.fnFormatFixedArithmeticRow.func = some 3 by kernel_rfl).symm.trans hf) |>.symm
      obtain rfl : fn = Tryd.f3 := (Option.some.inj (Tryd.func3.symm.trans hfn)).symm
      exact ⟨by kernel_rfl, fun j t ht => by
        rw [Tryd.params3] at ht
        have h3 : t = 2 ∨ t = 3 ∨ t = 5 := by
          rcases j with _ | _ | _ | j
          · left; simpa using ht.symm
          · right; left; simpa using ht.symm
          · right; right; simpa using ht.symm
          · simp at ht
        rcases h3 with rfl | rfl | rfl
        · exact (show Tryd.prog.wantsStandIn 2 = false by kernel_rfl)
        · exact (show Tryd.prog.wantsStandIn 3 = false by kernel_rfl)
        · exact (show Tryd.prog.wantsStandIn 5 = false by kernel_rfl)⟩)
    (by kernel_rfl)
end Go.Proofs.Qxb6601219aDoor
