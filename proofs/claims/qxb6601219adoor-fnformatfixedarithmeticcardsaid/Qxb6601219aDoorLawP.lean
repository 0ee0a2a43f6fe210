/-
  Seat b6601219aD: the law FnFormatFixedParsesBack: the walk.
-/
import Derived.Test.Qxb6601219aDoorWalkA
namespace Go.Proofs.Qxb6601219aDoor
open Go.RowKit Go.Sort
open Go.Lib (nDigits decDigits dg numDigits_eq nDigits_small decDigits_length nDigits_pos)

set_option linter.unusedVariables false

set_option maxHeartbeats 1600000 in
set_option maxRecDepth 100000 in
/-- The walk over plain lists, no sign: T the text, D the whole digits, M the mark, F the decimals; one whole digit. -/
theorem lawP_pos_one (n : Int) (q m dl mm : Nat) (Q u : Nat) (T D M F : List UInt8) (c0 : Int) (hq : q ≤ 65536) (hm : m < 256) (hdl : dl ≤ 20) (hd1 : dl = 1) (hm1 : 1 ≤ mm) (hm2 : mm ≤ 2) (w : World)
    (hneg : 0 ≤ n) (h0 : -9223372036854775808 ≤ n)
    (hsz : (B T).size = dl + mm + q) (hszm : (B M).size = mm) (hszd : (B D).size = dl)
    (hi0 : ∀ W, (Instr.index 9 (.string (B T)) (.int .i64 0)).run Tryd.prog W = .ok (.int .u8 c0) W) (hc0 : 48 ≤ c0) (hc1 : (c0 == 45) = false)
    (x1 : (B T).extract (dl) (dl + mm) = B M) (x2 : (B T).extract 0 (dl) = B D) (x3 : (B T).extract (dl + mm) (dl + mm + q) = B F)
    (HF : Hid (Calls Tryd.prog 5 #[.int .i64 n, .int .i64 q, .int .u8 m] w fun e w' => e = .returned (.string (B T)) ∧ Below w.heap.size w w'))
    (HM : Hid (∀ w, Calls Tryd.prog 10 #[.int .u8 m] w fun e w' => e = .returned (.string (B M)) ∧ Below w.heap.size w w'))
    (HA1 : Hid (∀ w, Calls Tryd.prog 12 #[.int .u64 0, .string (B D)] w fun e w' => e = .returned (.tuple #[.int .u64 Q, .bool true]) ∧ w' = w))
    (HA2 : Hid (∀ w, Calls Tryd.prog 12 #[.int .u64 Q, .string (B F)] w fun e w' => e = .returned (.tuple #[.int .u64 u, .bool true]) ∧ w' = w))
    (HG : Hid (∀ w, Calls Tryd.prog 6 #[.int .i64 n] w fun e w' => e = .returned (.int .u64 u) ∧ w' = w)) :
    Calls Tryd.prog 4 #[.int .i64 n, .int .i64 q, .int .u8 m] w fun e w' => e = .returned (.bool true) ∧ Below w.heap.size w w' := by
  subst hd1
  have hdn : decide (n < 0) = false := by simp; omega
  go_enter Tryd.func4, Tryd.ntmps4
  go_wp2_with fail
  refine HF.out.mono ?_
  rintro e w1 ⟨rfl, hb1⟩
  go_wp2_with fail
  refine (HM.out w1).mono ?_
  rintro e w2 ⟨rfl, hb2⟩
  have hb := hb1.trans (hb2.mono hb1.size)
  clear hb1 hb2
  go_wp2_with fail
  refine (HA1.out w2).mono ?_
  rintro e w3 ⟨rfl, hw⟩
  obtain rfl : w2 = w3 := hw.symm
  go_wp2_with fail
  refine (HA2.out w2).mono ?_
  rintro e w3 ⟨rfl, hw⟩
  obtain rfl : w2 = w3 := hw.symm
  go_wp2_with fail
  refine (HG.out w2).mono ?_
  rintro e w3 ⟨rfl, hw⟩
  obtain rfl : w2 = w3 := hw.symm
  go_wp2_with fail
  go_ret
  exact ⟨rfl, hb⟩

set_option maxHeartbeats 1600000 in
set_option maxRecDepth 100000 in
/-- The walk over plain lists, no sign: T the text, D the whole digits, M the mark, F the decimals; two whole digits or more. -/
theorem lawP_pos_big (n : Int) (q m dl mm : Nat) (Q u : Nat) (T D M F : List UInt8) (c0 : Int) (d0 : Int) (hq : q ≤ 65536) (hm : m < 256) (hdl : dl ≤ 20) (hd1 : 1 < dl) (hm1 : 1 ≤ mm) (hm2 : mm ≤ 2) (w : World)
    (hneg : 0 ≤ n) (h0 : -9223372036854775808 ≤ n)
    (hsz : (B T).size = dl + mm + q) (hszm : (B M).size = mm) (hszd : (B D).size = dl)
    (hi0 : ∀ W, (Instr.index 9 (.string (B T)) (.int .i64 0)).run Tryd.prog W = .ok (.int .u8 c0) W) (hc0 : 48 ≤ c0) (hc1 : (c0 == 45) = false)
    (x1 : (B T).extract (dl) (dl + mm) = B M) (x2 : (B T).extract 0 (dl) = B D) (x3 : (B T).extract (dl + mm) (dl + mm + q) = B F) (hi1 : ∀ W, (Instr.index 9 (.string (B D)) (.int .i64 0)).run Tryd.prog W = .ok (.int .u8 d0) W) (hd0 : (d0 == 48) = false)
    (HF : Hid (Calls Tryd.prog 5 #[.int .i64 n, .int .i64 q, .int .u8 m] w fun e w' => e = .returned (.string (B T)) ∧ Below w.heap.size w w'))
    (HM : Hid (∀ w, Calls Tryd.prog 10 #[.int .u8 m] w fun e w' => e = .returned (.string (B M)) ∧ Below w.heap.size w w'))
    (HA1 : Hid (∀ w, Calls Tryd.prog 12 #[.int .u64 0, .string (B D)] w fun e w' => e = .returned (.tuple #[.int .u64 Q, .bool true]) ∧ w' = w))
    (HA2 : Hid (∀ w, Calls Tryd.prog 12 #[.int .u64 Q, .string (B F)] w fun e w' => e = .returned (.tuple #[.int .u64 u, .bool true]) ∧ w' = w))
    (HG : Hid (∀ w, Calls Tryd.prog 6 #[.int .i64 n] w fun e w' => e = .returned (.int .u64 u) ∧ w' = w)) :
    Calls Tryd.prog 4 #[.int .i64 n, .int .i64 q, .int .u8 m] w fun e w' => e = .returned (.bool true) ∧ Below w.heap.size w w' := by
  have hdn : decide (n < 0) = false := by simp; omega
  go_enter Tryd.func4, Tryd.ntmps4
  go_wp2_with fail
  refine HF.out.mono ?_
  rintro e w1 ⟨rfl, hb1⟩
  go_wp2_with fail
  refine (HM.out w1).mono ?_
  rintro e w2 ⟨rfl, hb2⟩
  have hb := hb1.trans (hb2.mono hb1.size)
  clear hb1 hb2
  go_wp2_with fail
  refine (HA1.out w2).mono ?_
  rintro e w3 ⟨rfl, hw⟩
  obtain rfl : w2 = w3 := hw.symm
  go_wp2_with fail
  refine (HA2.out w2).mono ?_
  rintro e w3 ⟨rfl, hw⟩
  obtain rfl : w2 = w3 := hw.symm
  go_wp2_with fail
  refine (HG.out w2).mono ?_
  rintro e w3 ⟨rfl, hw⟩
  obtain rfl : w2 = w3 := hw.symm
  go_wp2_with fail
  go_ret
  exact ⟨rfl, hb⟩

set_option maxHeartbeats 1600000 in
set_option maxRecDepth 100000 in
/-- The walk over plain lists, a sign: T the text, D the whole digits, M the mark, F the decimals; one whole digit. -/
theorem lawP_neg_one (n : Int) (q m dl mm : Nat) (Q u : Nat) (T D M F : List UInt8) (hq : q ≤ 65536) (hm : m < 256) (hdl : dl ≤ 20) (hd1 : dl = 1) (hm1 : 1 ≤ mm) (hm2 : mm ≤ 2) (w : World)
    (hneg : n < 0) (h0 : -9223372036854775808 ≤ n)
    (hsz : (B T).size = 1 + dl + mm + q) (hszm : (B M).size = mm) (hszd : (B D).size = dl)
    (hi0 : ∀ W, (Instr.index 9 (.string (B T)) (.int .i64 0)).run Tryd.prog W = .ok (.int .u8 45) W)
    (x1 : (B T).extract (1 + dl) (1 + dl + mm) = B M) (x2 : (B T).extract 1 (1 + dl) = B D) (x3 : (B T).extract (1 + dl + mm) (1 + dl + mm + q) = B F)
    (HF : Hid (Calls Tryd.prog 5 #[.int .i64 n, .int .i64 q, .int .u8 m] w fun e w' => e = .returned (.string (B T)) ∧ Below w.heap.size w w'))
    (HM : Hid (∀ w, Calls Tryd.prog 10 #[.int .u8 m] w fun e w' => e = .returned (.string (B M)) ∧ Below w.heap.size w w'))
    (HA1 : Hid (∀ w, Calls Tryd.prog 12 #[.int .u64 0, .string (B D)] w fun e w' => e = .returned (.tuple #[.int .u64 Q, .bool true]) ∧ w' = w))
    (HA2 : Hid (∀ w, Calls Tryd.prog 12 #[.int .u64 Q, .string (B F)] w fun e w' => e = .returned (.tuple #[.int .u64 u, .bool true]) ∧ w' = w))
    (HG : Hid (∀ w, Calls Tryd.prog 6 #[.int .i64 n] w fun e w' => e = .returned (.int .u64 u) ∧ w' = w)) :
    Calls Tryd.prog 4 #[.int .i64 n, .int .i64 q, .int .u8 m] w fun e w' => e = .returned (.bool true) ∧ Below w.heap.size w w' := by
  subst hd1
  go_enter Tryd.func4, Tryd.ntmps4
  go_wp2_with fail
  refine HF.out.mono ?_
  rintro e w1 ⟨rfl, hb1⟩
  go_wp2_with fail
  refine (HM.out w1).mono ?_
  rintro e w2 ⟨rfl, hb2⟩
  have hb := hb1.trans (hb2.mono hb1.size)
  clear hb1 hb2
  go_wp2_with fail
  refine (HA1.out w2).mono ?_
  rintro e w3 ⟨rfl, hw⟩
  obtain rfl : w2 = w3 := hw.symm
  go_wp2_with fail
  refine (HA2.out w2).mono ?_
  rintro e w3 ⟨rfl, hw⟩
  obtain rfl : w2 = w3 := hw.symm
  go_wp2_with fail
  refine (HG.out w2).mono ?_
  rintro e w3 ⟨rfl, hw⟩
  obtain rfl : w2 = w3 := hw.symm
  go_wp2_with fail
  go_ret
  exact ⟨rfl, hb⟩

set_option maxHeartbeats 1600000 in
set_option maxRecDepth 100000 in
/-- The walk over plain lists, a sign: T the text, D the whole digits, M the mark, F the decimals; two whole digits or more. -/
theorem lawP_neg_big (n : Int) (q m dl mm : Nat) (Q u : Nat) (T D M F : List UInt8) (d0 : Int) (hq : q ≤ 65536) (hm : m < 256) (hdl : dl ≤ 20) (hd1 : 1 < dl) (hm1 : 1 ≤ mm) (hm2 : mm ≤ 2) (w : World)
    (hneg : n < 0) (h0 : -9223372036854775808 ≤ n)
    (hsz : (B T).size = 1 + dl + mm + q) (hszm : (B M).size = mm) (hszd : (B D).size = dl)
    (hi0 : ∀ W, (Instr.index 9 (.string (B T)) (.int .i64 0)).run Tryd.prog W = .ok (.int .u8 45) W)
    (x1 : (B T).extract (1 + dl) (1 + dl + mm) = B M) (x2 : (B T).extract 1 (1 + dl) = B D) (x3 : (B T).extract (1 + dl + mm) (1 + dl + mm + q) = B F) (hi1 : ∀ W, (Instr.index 9 (.string (B D)) (.int .i64 0)).run Tryd.prog W = .ok (.int .u8 d0) W) (hd0 : (d0 == 48) = false)
    (HF : Hid (Calls Tryd.prog 5 #[.int .i64 n, .int .i64 q, .int .u8 m] w fun e w' => e = .returned (.string (B T)) ∧ Below w.heap.size w w'))
    (HM : Hid (∀ w, Calls Tryd.prog 10 #[.int .u8 m] w fun e w' => e = .returned (.string (B M)) ∧ Below w.heap.size w w'))
    (HA1 : Hid (∀ w, Calls Tryd.prog 12 #[.int .u64 0, .string (B D)] w fun e w' => e = .returned (.tuple #[.int .u64 Q, .bool true]) ∧ w' = w))
    (HA2 : Hid (∀ w, Calls Tryd.prog 12 #[.int .u64 Q, .string (B F)] w fun e w' => e = .returned (.tuple #[.int .u64 u, .bool true]) ∧ w' = w))
    (HG : Hid (∀ w, Calls Tryd.prog 6 #[.int .i64 n] w fun e w' => e = .returned (.int .u64 u) ∧ w' = w)) :
    Calls Tryd.prog 4 #[.int .i64 n, .int .i64 q, .int .u8 m] w fun e w' => e = .returned (.bool true) ∧ Below w.heap.size w w' := by
  go_enter Tryd.func4, Tryd.ntmps4
  go_wp2_with fail
  refine HF.out.mono ?_
  rintro e w1 ⟨rfl, hb1⟩
  go_wp2_with fail
  refine (HM.out w1).mono ?_
  rintro e w2 ⟨rfl, hb2⟩
  have hb := hb1.trans (hb2.mono hb1.size)
  clear hb1 hb2
  go_wp2_with fail
  refine (HA1.out w2).mono ?_
  rintro e w3 ⟨rfl, hw⟩
  obtain rfl : w2 = w3 := hw.symm
  go_wp2_with fail
  refine (HA2.out w2).mono ?_
  rintro e w3 ⟨rfl, hw⟩
  obtain rfl : w2 = w3 := hw.symm
  go_wp2_with fail
  refine (HG.out w2).mono ?_
  rintro e w3 ⟨rfl, hw⟩
  obtain rfl : w2 = w3 := hw.symm
  go_wp2_with fail
  go_ret
  exact ⟨rfl, hb⟩

/-- The pieces of the text. -/
theorem text_length (neg : Bool) (u q m : Nat) : (fixedText neg u q m).length = (signText neg).length + nDigits (u / 10 ^ q) + (markText m).length + q := by
  simp [fixedText, low_length, decDigits_length]; omega

theorem text_mark (neg : Bool) (u q m a b : Nat) (ha : a = (signText neg).length + nDigits (u / 10 ^ q)) (hb : b = a + (markText m).length) : (B (fixedText neg u q m)).extract a b = B (markText m) := by
  subst ha hb
  rw [B_extract]
  congr 1
  have e1 : (fixedText neg u q m).drop ((signText neg).length + nDigits (u / 10 ^ q)) = markText m ++ low u q := by
    rw [fixedText, List.append_assoc]
    exact List.drop_left' (by simp [decDigits_length])
  rw [e1, List.take_left' (by omega)]

theorem text_whole (neg : Bool) (u q m a b : Nat) (ha : a = (signText neg).length) (hb : b = a + nDigits (u / 10 ^ q)) : (B (fixedText neg u q m)).extract a b = B (decDigits (u / 10 ^ q)) := by
  subst ha hb
  rw [B_extract]
  congr 1
  have e1 : (fixedText neg u q m).drop (signText neg).length = decDigits (u / 10 ^ q) ++ (markText m ++ low u q) := by
    rw [fixedText, List.append_assoc, List.append_assoc]
    exact List.drop_left' rfl
  rw [e1, List.take_left' (by rw [decDigits_length]; omega)]

theorem text_frac (neg : Bool) (u q m a b : Nat) (ha : a = (signText neg).length + nDigits (u / 10 ^ q) + (markText m).length) (hb : b = a + q) : (B (fixedText neg u q m)).extract a b = B (low u q) := by
  subst ha hb
  rw [B_extract]
  congr 1
  have e1 : (fixedText neg u q m).drop ((signText neg).length + nDigits (u / 10 ^ q) + (markText m).length) = low u q := by
    rw [fixedText]
    exact List.drop_left' (by simp [decDigits_length]; omega)
  rw [e1, List.take_of_length_le (by rw [low_length]; omega)]

theorem dec_first (x : Nat) : (decDigits x).getD 0 0 = dg x (nDigits x - 1) := by
  rw [dec_low, low_get (nDigits_pos x)]
  rfl

theorem lawP_in (n : Int) (h0 : -9223372036854775808 ≤ n) (h1 : n ≤ 9223372036854775807) (q m : Nat) (hq : q ≤ 65536) (hm : m < 256) (w : World) (htab : Lib.TabIs Tryd.prog w Tryd.tabName .u64 Lib.pow10Tab) :
    Calls Tryd.prog 4 #[.int .i64 n, .int .i64 q, .int .u8 m] w fun e w' => e = .returned (.bool true) ∧ Below w.heap.size w w' := by
  have hml := mark_length m
  have HF := zzfixed_any n h0 h1 q m hq hm w htab
  have hu : n.natAbs < 18446744073709551616 := by omega
  have hdl := nd20 (u := n.natAbs / 10 ^ q) (Nat.lt_of_le_of_lt (Nat.div_le_self _ _) hu)
  have hdp := nDigits_pos (n.natAbs / 10 ^ q)
  have HM : Hid (∀ w, Calls Tryd.prog 10 #[.int .u8 m] w fun e w' => e = .returned (.string (B (markText m))) ∧ Below w.heap.size w w') := fun w => mark_any m hm w
  have hszm : (B (markText m)).size = (markText m).length := B_size _
  have hszd : (B (decDigits (n.natAbs / 10 ^ q))).size = nDigits (n.natAbs / 10 ^ q) := by rw [B_size, decDigits_length]
  have hQ : accum 0 (decDigits (n.natAbs / 10 ^ q)) = n.natAbs / 10 ^ q := accum_dec _
  have hU : accum (n.natAbs / 10 ^ q) (low n.natAbs q) = n.natAbs := by
    rw [accum_low]
    have := Nat.div_add_mod n.natAbs (10 ^ q)
    rw [Nat.mul_comm] at this
    exact this
  have HA1 : Hid (∀ w, Calls Tryd.prog 12 #[.int .u64 0, .string (B (decDigits (n.natAbs / 10 ^ q)))] w fun e w' => e = .returned (.tuple #[.int .u64 ((n.natAbs / 10 ^ q : Nat) : Int), .bool true]) ∧ w' = w) := fun w => by
    have := accum_any 0 (decDigits (n.natAbs / 10 ^ q)) (by rw [decDigits_length]; omega) (by rw [dec_low]; exact low_digits _ _) (by rw [hQ]; exact Nat.lt_of_le_of_lt (Nat.div_le_self _ _) hu) w
    rw [hQ] at this
    exact this
  have HA2 : Hid (∀ w, Calls Tryd.prog 12 #[.int .u64 ((n.natAbs / 10 ^ q : Nat) : Int), .string (B (low n.natAbs q))] w fun e w' => e = .returned (.tuple #[.int .u64 ((n.natAbs : Nat) : Int), .bool true]) ∧ w' = w) := fun w => by
    have := accum_any (n.natAbs / 10 ^ q) (low n.natAbs q) (by rw [low_length]; omega) (low_digits _ _) (by rw [hU]; exact hu) w
    rw [hU] at this
    exact this
  have HG : Hid (∀ w, Calls Tryd.prog 6 #[.int .i64 n] w fun e w' => e = .returned (.int .u64 ((n.natAbs : Nat) : Int)) ∧ w' = w) := fun w => magnitude_any n h0 h1 w
  have hi1 : ∀ W, (Instr.index 9 (.string (B (decDigits (n.natAbs / 10 ^ q)))) (.int .i64 0)).run Tryd.prog W = .ok (.int .u8 ((dg (n.natAbs / 10 ^ q) (nDigits (n.natAbs / 10 ^ q) - 1)).toNat : Int)) W := fun W => by
    have := index_B (decDigits (n.natAbs / 10 ^ q)) 0 (by rw [decDigits_length]; exact hdp) W
    rw [dec_first] at this
    exact this
  have hd0 : 1 < nDigits (n.natAbs / 10 ^ q) → ((((dg (n.natAbs / 10 ^ q) (nDigits (n.natAbs / 10 ^ q) - 1)).toNat : Nat) : Int) == 48) = false := fun h => by
    have := dec_head h
    have h2 : (dg (n.natAbs / 10 ^ q) (nDigits (n.natAbs / 10 ^ q) - 1)).toNat ≠ 48 := fun e => this (UInt8.toNat_inj.1 (by rw [e]; rfl))
    rw [beq_eq_false_iff_ne]
    omega
  by_cases hn : n < 0
  · rw [decide_eq_true hn] at HF
    have hsl : (signText true).length = 1 := rfl
    have hsz := B_size (fixedText true n.natAbs q m)
    rw [text_length, hsl] at hsz
    have hi0 : ∀ W, (Instr.index 9 (.string (B (fixedText true n.natAbs q m))) (.int .i64 0)).run Tryd.prog W = .ok (.int .u8 45) W := fun W => by
      have := index_B (fixedText true n.natAbs q m) 0 (by rw [text_length, hsl]; omega) W
      simpa [fixedText, signText] using this
    have x1 := text_mark true n.natAbs q m (1 + nDigits (n.natAbs / 10 ^ q)) (1 + nDigits (n.natAbs / 10 ^ q) + (markText m).length) (by rw [hsl]) rfl
    have x2 := text_whole true n.natAbs q m 1 (1 + nDigits (n.natAbs / 10 ^ q)) rfl rfl
    have x3 := text_frac true n.natAbs q m (1 + nDigits (n.natAbs / 10 ^ q) + (markText m).length) (1 + nDigits (n.natAbs / 10 ^ q) + (markText m).length + q) (by rw [hsl]) rfl
    by_cases hone : nDigits (n.natAbs / 10 ^ q) = 1
    · exact lawP_neg_one n q m (nDigits (n.natAbs / 10 ^ q)) (markText m).length _ _ _ _ _ _ hq hm hdl hone hml.1 hml.2 w hn h0 hsz hszm hszd hi0 x1 x2 x3 HF HM HA1 HA2 HG
    · exact lawP_neg_big n q m (nDigits (n.natAbs / 10 ^ q)) (markText m).length _ _ _ _ _ _ _ hq hm hdl (by omega) hml.1 hml.2 w hn h0 hsz hszm hszd hi0 x1 x2 x3 hi1 (hd0 (by omega)) HF HM HA1 HA2 HG
  · rw [decide_eq_false hn] at HF
    have hsl : (signText false).length = 0 := rfl
    have hsz := B_size (fixedText false n.natAbs q m)
    rw [text_length, hsl, Nat.zero_add] at hsz
    have hi0 : ∀ W, (Instr.index 9 (.string (B (fixedText false n.natAbs q m))) (.int .i64 0)).run Tryd.prog W = .ok (.int .u8 ((dg (n.natAbs / 10 ^ q) (nDigits (n.natAbs / 10 ^ q) - 1)).toNat : Int)) W := fun W => by
      have := index_B (fixedText false n.natAbs q m) 0 (by rw [text_length, hsl]; omega) W
      have e : (fixedText false n.natAbs q m).getD 0 0 = dg (n.natAbs / 10 ^ q) (nDigits (n.natAbs / 10 ^ q) - 1) := by
        rw [← dec_first]
        have hp : 0 < (decDigits (n.natAbs / 10 ^ q)).length := by rw [decDigits_length]; exact hdp
        simp [fixedText, signText, List.getD, List.getElem?_append, hp]
      rw [e] at this
      exact this
    have hdd := dg_digit (n.natAbs / 10 ^ q) (nDigits (n.natAbs / 10 ^ q) - 1)
    have x1 := text_mark false n.natAbs q m (nDigits (n.natAbs / 10 ^ q)) (nDigits (n.natAbs / 10 ^ q) + (markText m).length) (by rw [hsl, Nat.zero_add]) rfl
    have x2 := text_whole false n.natAbs q m 0 (nDigits (n.natAbs / 10 ^ q)) rfl (by rw [Nat.zero_add])
    have x3 := text_frac false n.natAbs q m (nDigits (n.natAbs / 10 ^ q) + (markText m).length) (nDigits (n.natAbs / 10 ^ q) + (markText m).length + q) (by rw [hsl, Nat.zero_add]) rfl
    by_cases hone : nDigits (n.natAbs / 10 ^ q) = 1
    · exact lawP_pos_one n q m (nDigits (n.natAbs / 10 ^ q)) (markText m).length _ _ _ _ _ _ _ hq hm hdl hone hml.1 hml.2 w (by omega) h0 hsz hszm hszd hi0 (by omega) (by rw [beq_eq_false_iff_ne]; omega) x1 x2 x3 HF HM HA1 HA2 HG
    · exact lawP_pos_big n q m (nDigits (n.natAbs / 10 ^ q)) (markText m).length _ _ _ _ _ _ _ _ hq hm hdl (by omega) hml.1 hml.2 w (by omega) h0 hsz hszm hszd hi0 (by omega) (by rw [beq_eq_false_iff_ne]; omega) x1 x2 x3 hi1 (hd0 (by omega)) HF HM HA1 HA2 HG

set_option maxHeartbeats 400000 in
/-- The law answers true at once. -/
theorem lawP_out (n p : Int) (m : Nat) (h : p < 0 ∨ 65536 < p) (w : World) :
    Calls Tryd.prog 4 #[.int .i64 n, .int .i64 p, .int .u8 m] w fun e w' => e = .returned (.bool true) ∧ Below w.heap.size w w' := by
  rcases h with h | h
  · go_enter Tryd.func4, Tryd.ntmps4
    go_wp2
    go_ret
    exact ⟨rfl, Below.refl _ _⟩
  · have h2 : ¬ p < 0 := by omega
    go_enter Tryd.func4, Tryd.ntmps4
    go_wp2
    go_ret
    exact ⟨rfl, Below.refl _ _⟩

theorem lawP_any (n p : Int) (m : Nat) (h0 : -9223372036854775808 ≤ n) (h1 : n ≤ 9223372036854775807) (hm : m < 256) (w : World) (htab : Lib.TabIs Tryd.prog w Tryd.tabName .u64 Lib.pow10Tab) :
    Calls Tryd.prog 4 #[.int .i64 n, .int .i64 p, .int .u8 m] w fun e w' => e = .returned (.bool true) ∧ Below w.heap.size w w' := by
  by_cases h : 0 ≤ p ∧ p ≤ 65536
  · obtain ⟨q, rfl⟩ : ∃ q : Nat, p = q := ⟨p.toNat, by omega⟩
    exact lawP_in n h0 h1 q m (by omega) hm w htab
  · exact lawP_out n p m (by omega) w

end Go.Proofs.Qxb6601219aDoor
