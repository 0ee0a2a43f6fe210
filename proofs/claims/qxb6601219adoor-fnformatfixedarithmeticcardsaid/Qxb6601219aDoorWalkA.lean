/-
  Seat b6601219aD: formatFixed, zzMagnitudeB1, zzAccumulateB1.
-/
import Derived.Test.Qxb6601219aDoorFmt
namespace Go.Proofs.Qxb6601219aDoor
open Go.RowKit Go.Sort
open Go.Lib (nDigits decDigits dg numDigits_eq nDigits_small)

theorem nd20 {u : Nat} (h : u < 18446744073709551616) : nDigits u ≤ 20 := by
  by_cases h1 : 1 ≤ u
  · have := numDigits_eq u h1 h; split at this <;> omega
  · have : u = 0 := by omega
    subst this
    rw [nDigits_small (by omega)]
    omega

set_option maxHeartbeats 800000 in
set_option maxRecDepth 100000 in
/-- formatFixed. -/
theorem fixed_any (n : Int) (h0 : -9223372036854775808 ≤ n) (h1 : n ≤ 9223372036854775807) (p m : Nat) (hp : p ≤ 65536) (hm : m < 256) (w : World) (htab : Lib.TabIs Tryd.prog w Tryd.tabName .u64 Lib.pow10Tab) :
    Calls Tryd.prog 13 #[.int .i64 n, .int .i64 p, .int .u8 m] w fun e w' => e = .returned (.string (B (fixedText (decide (n < 0)) n.natAbs p m))) ∧ Below w.heap.size w w' := by
  by_cases hn : n < 0
  · obtain ⟨u, rfl⟩ : ∃ u : Nat, n = -(u : Int) := ⟨n.natAbs, by omega⟩
    have hwr : IntKind.u64.wrap (-IntKind.u64.wrap (-(u : Int))) = (u : Int) := by rw [IntKind.wrap_u64, IntKind.wrap_u64]; omega
    have hab : (-(u : Int)).natAbs = u := by omega
    have hd : decide (-(u : Int) < 0) = true := by simp; omega
    rw [hab, hd]
    go_enter Tryd.func13, Tryd.ntmps13
    go_wp2_with fail
    refine (formatUint u (by omega) w htab).mono ?_
    rintro e w1 ⟨rfl, hb1⟩
    go_wp2_with fail
    refine (digits_any true u p m hp hm (nd20 (by omega)) w1).mono ?_
    rintro e w2 ⟨rfl, hb2⟩
    have hb := hb1.trans (hb2.mono hb1.size)
    clear hb1 hb2
    go_wp2_with fail
    go_ret
    exact ⟨rfl, hb⟩
  · obtain ⟨u, rfl⟩ : ∃ u : Nat, n = (u : Int) := ⟨n.toNat, by omega⟩
    have hab : ((u : Int)).natAbs = u := by omega
    have hd : decide ((u : Int) < 0) = false := by simp
    rw [hab, hd]
    go_enter Tryd.func13, Tryd.ntmps13
    go_wp2_with fail
    refine (formatUint u (by omega) w htab).mono ?_
    rintro e w1 ⟨rfl, hb1⟩
    go_wp2_with fail
    refine (digits_any false u p m hp hm (nd20 (by omega)) w1).mono ?_
    rintro e w2 ⟨rfl, hb2⟩
    have hb := hb1.trans (hb2.mono hb1.size)
    clear hb1 hb2
    go_wp2_with fail
    go_ret
    exact ⟨rfl, hb⟩

set_option maxHeartbeats 400000 in
/-- ZZFormatFixed. -/
theorem zzfixed_any (n : Int) (h0 : -9223372036854775808 ≤ n) (h1 : n ≤ 9223372036854775807) (p m : Nat) (hp : p ≤ 65536) (hm : m < 256) (w : World) (htab : Lib.TabIs Tryd.prog w Tryd.tabName .u64 Lib.pow10Tab) :
    Calls Tryd.prog 5 #[.int .i64 n, .int .i64 p, .int .u8 m] w fun e w' => e = .returned (.string (B (fixedText (decide (n < 0)) n.natAbs p m))) ∧ Below w.heap.size w w' := by
  have H := fixed_any n h0 h1 p m hp hm w htab
  obtain ⟨s, hs⟩ : ∃ s, s = B (fixedText (decide (n < 0)) n.natAbs p m) := ⟨_, rfl⟩
  rw [← hs] at H ⊢
  have HH : Hid (Calls Tryd.prog 13 #[.int .i64 n, .int .i64 p, .int .u8 m] w fun e w' => e = .returned (.string s) ∧ Below w.heap.size w w') := H
  clear H hs htab
  go_enter Tryd.func5, Tryd.ntmps5
  go_wp2_with fail
  refine HH.out.mono ?_
  rintro e w1 ⟨rfl, hb1⟩
  go_wp2_with fail
  go_ret
  exact ⟨rfl, hb1⟩

set_option maxHeartbeats 400000 in
set_option maxRecDepth 100000 in
/-- zzMagnitudeB1. -/
theorem magnitude_any (n : Int) (h0 : -9223372036854775808 ≤ n) (h1 : n ≤ 9223372036854775807) (w : World) :
    Calls Tryd.prog 6 #[.int .i64 n] w fun e w' => e = .returned (.int .u64 (n.natAbs : Int)) ∧ w' = w := by
  by_cases hn : 0 ≤ n
  · have e : (n.natAbs : Int) = n := by omega
    rw [e]
    clear e
    go_enter Tryd.func6, Tryd.ntmps6
    go_wp2
    go_ret
    exact ⟨rfl, rfl⟩
  · by_cases hm : n = -9223372036854775808
    · subst hm
      go_enter Tryd.func6, Tryd.ntmps6
      go_wp2
      go_ret
      exact ⟨rfl, rfl⟩
    · have e : (n.natAbs : Int) = -n := by omega
      rw [e]
      clear e
      have hb : (n == -9223372036854775808) = false := by simp [hm]
      go_enter Tryd.func6, Tryd.ntmps6
      go_wp2
      go_ret
      exact ⟨rfl, rfl⟩

theorem index_B (l : List UInt8) (k : Nat) (h : k < l.length) (W : World) : (Instr.index 9 (.string (B l)) (.int .i64 (k : Int))).run Tryd.prog W = .ok (.int .u8 ((l.getD k 0).toNat : Int)) W := by
  have hs : (B l)[k]? = some (l.getD k 0) := by
    have hk : k < (B l).size := by rw [B_size]; exact h
    rw [getElem?_pos (B l) k hk]
    show some (B l).data[k] = _
    simp [B, h]
  simp [Instr.index, Sem.run_bind, asIntOf, run_underlying Tryd.underlying9 W, hs]

/-- What one digit more does. -/
theorem accum_step {v : Nat} {l : List UInt8} {k : Nat} (h : k < l.length) (hd : ∀ c ∈ l, 48 ≤ c.toNat ∧ c.toNat ≤ 57) (hmax : accum v l < 18446744073709551616) :
    ∃ d, (l.getD k 0).toNat = 48 + d ∧ d ≤ 9 ∧ accum v (l.take (k + 1)) = accum v (l.take k) * 10 + d ∧ accum v (l.take k) * 10 + d < 18446744073709551616 := by
  have hm : l.getD k 0 ∈ l := by simp [List.getD, h]
  obtain ⟨h1, h2⟩ := hd _ hm
  have e : accum v (l.take (k + 1)) = accum v (l.take k) * 10 + ((l.getD k 0).toNat - 48) := by
    rw [List.take_succ_eq_append_getElem h, accum_snoc]
    simp [List.getD, h]
  refine ⟨(l.getD k 0).toNat - 48, by omega, by omega, e, ?_⟩
  rw [← e]
  exact Nat.lt_of_le_of_lt (accum_take_le v l (k + 1)) hmax

set_option maxHeartbeats 800000 in
set_option maxRecDepth 100000 in
/-- zzAccumulateB1 on digits that do not overflow. -/
theorem accum_any (v : Nat) (l : List UInt8) (hl : l.length ≤ 100000) (hd : ∀ c ∈ l, 48 ≤ c.toNat ∧ c.toNat ≤ 57) (hmax : accum v l < 18446744073709551616) (w : World) :
    Calls Tryd.prog 12 #[.int .u64 v, .string (B l)] w fun e w' => e = .returned (.tuple #[.int .u64 (accum v l : Nat), .bool true]) ∧ w' = w := by
  have hsz : (B l).size = l.length := B_size l
  go_enter Tryd.func12, Tryd.ntmps12
  go_wp2
  go_loop [0, 6] (fun x i => ∃ k : Nat, k ≤ l.length ∧ i = .int .i64 k ∧ x = .int .u64 (accum v (l.take k) : Nat)) (fun _ i => l.length - (intOf i).toNat)
  case atStart => exact ⟨0, Nat.zero_le _, rfl, rfl⟩
  case round =>
    obtain ⟨k, hk, rfl, rfl⟩ := hrel
    by_cases hlt : k < l.length
    · obtain ⟨d, hd1, hd9, hacc, hbd⟩ := accum_step (v := v) hlt hd hmax
      have hix := index_B l k hlt
      rw [hd1] at hix
      obtain ⟨a, ha⟩ : ∃ a, a = accum v (l.take k) := ⟨_, rfl⟩
      rw [← ha] at hacc hbd ⊢
      have HA : Hid (accum v (l.take (k + 1)) = a * 10 + d) := hacc
      have e1 : (((48 + d : Nat) : Int)) = 48 + (d : Int) := by omega
      rw [e1] at hix
      clear hacc ha hd1 hd hmax e1
      go_wp2
      go_round
      case rel => exact ⟨k + 1, by omega, by go_num, by rw [HA.out]; go_num⟩
      case measure => simp [intOf]; omega
    · have : k = l.length := by omega
      subst this
      have HT : Hid (l.take l.length = l) := List.take_of_length_le (Nat.le_refl _)
      go_wp2
      go_ret2
      exact ⟨by first | rfl | (rw [HT.out]; rfl), rfl⟩

end Go.Proofs.Qxb6601219aDoor
