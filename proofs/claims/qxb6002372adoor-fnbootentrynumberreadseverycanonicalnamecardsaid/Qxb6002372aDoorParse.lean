/-
  Seat b6002372aD: internal/strconv.ParseUint on four hexadecimal digits.
-/
import Derived.Test.Qxb6002372aDoorRows
import Derived.WalkKit
import Derived.WalkSpells
import Derived.WalkLawsBesides
import Derived.Deep.QuietTactic
import Derived.BigQuiet
import Derived.Deep.OwnRows
import Derived.Lib.ConvBytes
import Derived.Deep.CutRange
namespace Go.Proofs.Qxb6002372aDoor
open Go.RowKit

/-- The string of the bytes l. -/
def B (l : List UInt8) : ByteArray := ⟨l.toArray⟩
theorem B_size (l : List UInt8) : (B l).size = l.length := by simp [B, ByteArray.size]
theorem B_data (l : List UInt8) : (B l).data.toList = l := by simp [B]

/-- The digit of v. -/
def dg (v : Nat) : UInt8 := if v < 10 then UInt8.ofNat (48 + v) else UInt8.ofNat (55 + v)
/-- The digits of n. -/
def dgs (l : List Nat) : List UInt8 := l.map dg
def val (l : List Nat) : Nat := l.foldl (fun a d => a * 16 + d) 0

theorem val_snoc (l : List Nat) (d : Nat) : val (l ++ [d]) = val l * 16 + d := by simp [val, List.foldl_append]

theorem take_snoc (l : List Nat) (k : Nat) (h : k < l.length) : l.take (k + 1) = l.take k ++ [l.getD k 0] := by
  rw [List.take_succ_eq_append_getElem h]
  simp [List.getD, h]

theorem val_lt (l : List Nat) (h : ∀ d ∈ l, d < 16) (k : Nat) (hk : k ≤ l.length) : val (l.take k) < 16 ^ k := by
  induction k with
  | zero => simp [val]
  | succ k ih =>
    rw [take_snoc l k (by omega), val_snoc, Nat.pow_succ]
    have h1 := ih (by omega)
    have h2 : l.getD k 0 < 16 := h _ (by simp [List.getD, show k < l.length by omega])
    omega

set_option maxHeartbeats 400000 in
theorem lower_any (c : Int) (w : World) : Calls Tryd.prog 11 #[.int .u8 c] w fun e w' => e = .returned (.int .u8 (bits BinOp.or IntKind.u8 c 32)) ∧ w' = w := by
  go_enter Tryd.func11, Tryd.ntmps11
  go_wp2
  go_ret
  exact ⟨rfl, rfl⟩

theorem lower_is (c d : Int) (h : bits BinOp.or IntKind.u8 c 32 = d) (w : World) : Calls Tryd.prog 11 #[.int .u8 c] w fun e w' => e = .returned (.int .u8 d) ∧ w' = w := by
  subst h
  exact lower_any c w

set_option maxRecDepth 100000 in
set_option maxHeartbeats 20000000 in
theorem inner_any (l : List Nat) (hl : l.length = 4) (hd : ∀ d ∈ l, d < 16) (w : World) :
    Calls Tryd.prog 9 #[.string (B (dgs l)), .int .i64 16, .int .i64 16] w fun e w' => e = .returned (.tuple #[.int .u64 (val l : Int), .nilIface]) ∧ Below w.heap.size w w' := by
  have hs := B_size (dgs l)
  have hlen : (dgs l).length = 4 := by simp [dgs, hl]
  rw [hlen] at hs
  have hcv := Lib.run_convert_string_bytes (P := Tryd.prog) w 9 33 5 (B (dgs l)) Tryd.underlying9 Tryd.underlying33 Tryd.underlying5
  rw [hs] at hcv
  have hne : (B (dgs l)).toList.isEmpty = false := by
    rw [ByteArray.toList_eq, B_data, List.isEmpty_eq_false_iff]
    intro e
    rw [e] at hlen
    simp at hlen
  have hcell : ∀ k, k < 4 → (Lib.bytesWorld w 5 (B (dgs l))).cell? ⟨w.heap.size, k, none⟩ = some (.int .u8 ((dg (l.getD k 0)).toNat : Int)) := by
    intro k hk
    rw [Lib.bytesWorld_cell w 5 (B (dgs l)) k (by omega), B_data]
    simp [dgs, List.getD, show k < l.length by omega]
  have hbel : Below w.heap.size w (Lib.bytesWorld w 5 (B (dgs l))) := ⟨rfl, rfl, rfl, by rw [Lib.bytesWorld_size]; omega, fun j hj => Lib.bytesWorld_at_old w 5 (B (dgs l)) j hj⟩
  generalize (Lib.bytesWorld w 5 (B (dgs l))) = w1 at hcv hcell hbel
  generalize hgc : grownCap w 4 0 5 = gc at hcv
  clear hgc
  go_enter Tryd.func9, Tryd.ntmps9
  go_wp2_with fail
  go_loopw [12, 13, 15, 16, 17, 101] (fun us n _ _ _ i wr => ∃ k : Nat, k ≤ 4 ∧ us = .bool false ∧ n = .int .u64 (val (l.take k) : Int) ∧ i = .int .i64 k ∧ wr = w1)
    (fun _ _ _ _ _ i _ => 4 - (intOf i).toNat)
  case atStart => exact ⟨0, by omega, rfl, rfl, rfl, rfl⟩
  case round =>
    obtain ⟨k, hk, rfl, rfl, rfl, rfl⟩ := hrel
    by_cases hlt : k < 4
    · have hc := hcell k hlt
      have hv16 : l.getD k 0 < 16 := hd _ (by simp [List.getD, show k < l.length by omega])
      have hstep : val (l.take (k + 1)) = val (l.take k) * 16 + l.getD k 0 := by rw [take_snoc l k (by omega), val_snoc]
      have hx : val (l.take k) < 4096 := by
        have := val_lt l hd k (by omega)
        have h2 : 16 ^ k ≤ 16 ^ 3 := Nat.pow_le_pow_right (by omega) (by omega)
        omega
      generalize l.getD k 0 = v at hc hv16 hstep
      have HS : Hid (val (l.take (k + 1)) = val (l.take k) * 16 + v) := hstep
      generalize val (l.take k) = x at HS hx ⊢
      clear hstep hcell hcv
      have hx64 : (x : Int) < 4096 := by omega
      have f1 : ¬ (1152921504606846976 : Int) ≤ (x : Int) := by omega
      have hcases : v = 0 ∨ v = 1 ∨ v = 2 ∨ v = 3 ∨ v = 4 ∨ v = 5 ∨ v = 6 ∨ v = 7 ∨ v = 8 ∨ v = 9 ∨ v = 10 ∨ v = 11 ∨ v = 12 ∨ v = 13 ∨ v = 14 ∨ v = 15 := by omega
      rcases hcases with rfl | rfl | rfl | rfl | rfl | rfl | rfl | rfl | rfl | rfl | rfl | rfl | rfl | rfl | rfl | rfl
      · simp [dg] at hc
        clear hd hs hlen hne hv16 hx hk
        have hlt' : (k : Int) < 4 := by omega
        have h0k : (0 : Int) ≤ (k : Int) := by omega
        go_wp2_with fail
        all_goals refine ⟨⟨k + 1, by omega, rfl, ?_, ?_, trivial⟩, ?_⟩
        all_goals first | (congr 1; have h := HS.out; omega) | (congr 1; done) | (simp [intOf]; omega)
      · simp [dg] at hc
        clear hd hs hlen hne hv16 hx hk
        have hlt' : (k : Int) < 4 := by omega
        have h0k : (0 : Int) ≤ (k : Int) := by omega
        go_wp2_with fail
        all_goals refine ⟨⟨k + 1, by omega, rfl, ?_, ?_, trivial⟩, ?_⟩
        all_goals first | (congr 1; have h := HS.out; omega) | (congr 1; done) | (simp [intOf]; omega)
      · simp [dg] at hc
        clear hd hs hlen hne hv16 hx hk
        have hlt' : (k : Int) < 4 := by omega
        have h0k : (0 : Int) ≤ (k : Int) := by omega
        go_wp2_with fail
        all_goals refine ⟨⟨k + 1, by omega, rfl, ?_, ?_, trivial⟩, ?_⟩
        all_goals first | (congr 1; have h := HS.out; omega) | (congr 1; done) | (simp [intOf]; omega)
      · simp [dg] at hc
        clear hd hs hlen hne hv16 hx hk
        have hlt' : (k : Int) < 4 := by omega
        have h0k : (0 : Int) ≤ (k : Int) := by omega
        go_wp2_with fail
        all_goals refine ⟨⟨k + 1, by omega, rfl, ?_, ?_, trivial⟩, ?_⟩
        all_goals first | (congr 1; have h := HS.out; omega) | (congr 1; done) | (simp [intOf]; omega)
      · simp [dg] at hc
        clear hd hs hlen hne hv16 hx hk
        have hlt' : (k : Int) < 4 := by omega
        have h0k : (0 : Int) ≤ (k : Int) := by omega
        go_wp2_with fail
        all_goals refine ⟨⟨k + 1, by omega, rfl, ?_, ?_, trivial⟩, ?_⟩
        all_goals first | (congr 1; have h := HS.out; omega) | (congr 1; done) | (simp [intOf]; omega)
      · simp [dg] at hc
        clear hd hs hlen hne hv16 hx hk
        have hlt' : (k : Int) < 4 := by omega
        have h0k : (0 : Int) ≤ (k : Int) := by omega
        go_wp2_with fail
        all_goals refine ⟨⟨k + 1, by omega, rfl, ?_, ?_, trivial⟩, ?_⟩
        all_goals first | (congr 1; have h := HS.out; omega) | (congr 1; done) | (simp [intOf]; omega)
      · simp [dg] at hc
        clear hd hs hlen hne hv16 hx hk
        have hlt' : (k : Int) < 4 := by omega
        have h0k : (0 : Int) ≤ (k : Int) := by omega
        go_wp2_with fail
        all_goals refine ⟨⟨k + 1, by omega, rfl, ?_, ?_, trivial⟩, ?_⟩
        all_goals first | (congr 1; have h := HS.out; omega) | (congr 1; done) | (simp [intOf]; omega)
      · simp [dg] at hc
        clear hd hs hlen hne hv16 hx hk
        have hlt' : (k : Int) < 4 := by omega
        have h0k : (0 : Int) ≤ (k : Int) := by omega
        go_wp2_with fail
        all_goals refine ⟨⟨k + 1, by omega, rfl, ?_, ?_, trivial⟩, ?_⟩
        all_goals first | (congr 1; have h := HS.out; omega) | (congr 1; done) | (simp [intOf]; omega)
      · simp [dg] at hc
        clear hd hs hlen hne hv16 hx hk
        have hlt' : (k : Int) < 4 := by omega
        have h0k : (0 : Int) ≤ (k : Int) := by omega
        go_wp2_with fail
        all_goals refine ⟨⟨k + 1, by omega, rfl, ?_, ?_, trivial⟩, ?_⟩
        all_goals first | (congr 1; have h := HS.out; omega) | (congr 1; done) | (simp [intOf]; omega)
      · simp [dg] at hc
        clear hd hs hlen hne hv16 hx hk
        have hlt' : (k : Int) < 4 := by omega
        have h0k : (0 : Int) ≤ (k : Int) := by omega
        go_wp2_with fail
        all_goals refine ⟨⟨k + 1, by omega, rfl, ?_, ?_, trivial⟩, ?_⟩
        all_goals first | (congr 1; have h := HS.out; omega) | (congr 1; done) | (simp [intOf]; omega)
      · simp [dg] at hc
        clear hd hs hlen hne hv16 hx hk
        have hlt' : (k : Int) < 4 := by omega
        have h0k : (0 : Int) ≤ (k : Int) := by omega
        go_wp2_with fail
        refine (lower_is 65 97 (by decide +kernel) _).mono ?_
        rintro e w' ⟨rfl, rfl⟩
        dsimp only
        replace f1 : ¬ (1152921504606846976 : Int) ≤ (x : Int) := by omega
        go_wp2_with fail
        refine (lower_is 65 97 (by decide +kernel) _).mono ?_
        rintro e w' ⟨rfl, rfl⟩
        dsimp only
        replace f1 : ¬ (1152921504606846976 : Int) ≤ (x : Int) := by omega
        go_wp2_with fail
        refine (lower_is 65 97 (by decide +kernel) _).mono ?_
        rintro e w' ⟨rfl, rfl⟩
        dsimp only
        replace f1 : ¬ (1152921504606846976 : Int) ≤ (x : Int) := by omega
        go_wp2_with fail
        all_goals refine ⟨⟨k + 1, by omega, rfl, ?_, ?_, trivial⟩, ?_⟩
        all_goals first | (congr 1; have h := HS.out; omega) | (congr 1; done) | (simp [intOf]; omega)
      · simp [dg] at hc
        clear hd hs hlen hne hv16 hx hk
        have hlt' : (k : Int) < 4 := by omega
        have h0k : (0 : Int) ≤ (k : Int) := by omega
        go_wp2_with fail
        refine (lower_is 66 98 (by decide +kernel) _).mono ?_
        rintro e w' ⟨rfl, rfl⟩
        dsimp only
        replace f1 : ¬ (1152921504606846976 : Int) ≤ (x : Int) := by omega
        go_wp2_with fail
        refine (lower_is 66 98 (by decide +kernel) _).mono ?_
        rintro e w' ⟨rfl, rfl⟩
        dsimp only
        replace f1 : ¬ (1152921504606846976 : Int) ≤ (x : Int) := by omega
        go_wp2_with fail
        refine (lower_is 66 98 (by decide +kernel) _).mono ?_
        rintro e w' ⟨rfl, rfl⟩
        dsimp only
        replace f1 : ¬ (1152921504606846976 : Int) ≤ (x : Int) := by omega
        go_wp2_with fail
        all_goals refine ⟨⟨k + 1, by omega, rfl, ?_, ?_, trivial⟩, ?_⟩
        all_goals first | (congr 1; have h := HS.out; omega) | (congr 1; done) | (simp [intOf]; omega)
      · simp [dg] at hc
        clear hd hs hlen hne hv16 hx hk
        have hlt' : (k : Int) < 4 := by omega
        have h0k : (0 : Int) ≤ (k : Int) := by omega
        go_wp2_with fail
        refine (lower_is 67 99 (by decide +kernel) _).mono ?_
        rintro e w' ⟨rfl, rfl⟩
        dsimp only
        replace f1 : ¬ (1152921504606846976 : Int) ≤ (x : Int) := by omega
        go_wp2_with fail
        refine (lower_is 67 99 (by decide +kernel) _).mono ?_
        rintro e w' ⟨rfl, rfl⟩
        dsimp only
        replace f1 : ¬ (1152921504606846976 : Int) ≤ (x : Int) := by omega
        go_wp2_with fail
        refine (lower_is 67 99 (by decide +kernel) _).mono ?_
        rintro e w' ⟨rfl, rfl⟩
        dsimp only
        replace f1 : ¬ (1152921504606846976 : Int) ≤ (x : Int) := by omega
        go_wp2_with fail
        all_goals refine ⟨⟨k + 1, by omega, rfl, ?_, ?_, trivial⟩, ?_⟩
        all_goals first | (congr 1; have h := HS.out; omega) | (congr 1; done) | (simp [intOf]; omega)
      · simp [dg] at hc
        clear hd hs hlen hne hv16 hx hk
        have hlt' : (k : Int) < 4 := by omega
        have h0k : (0 : Int) ≤ (k : Int) := by omega
        go_wp2_with fail
        refine (lower_is 68 100 (by decide +kernel) _).mono ?_
        rintro e w' ⟨rfl, rfl⟩
        dsimp only
        replace f1 : ¬ (1152921504606846976 : Int) ≤ (x : Int) := by omega
        go_wp2_with fail
        refine (lower_is 68 100 (by decide +kernel) _).mono ?_
        rintro e w' ⟨rfl, rfl⟩
        dsimp only
        replace f1 : ¬ (1152921504606846976 : Int) ≤ (x : Int) := by omega
        go_wp2_with fail
        refine (lower_is 68 100 (by decide +kernel) _).mono ?_
        rintro e w' ⟨rfl, rfl⟩
        dsimp only
        replace f1 : ¬ (1152921504606846976 : Int) ≤ (x : Int) := by omega
        go_wp2_with fail
        all_goals refine ⟨⟨k + 1, by omega, rfl, ?_, ?_, trivial⟩, ?_⟩
        all_goals first | (congr 1; have h := HS.out; omega) | (congr 1; done) | (simp [intOf]; omega)
      · simp [dg] at hc
        clear hd hs hlen hne hv16 hx hk
        have hlt' : (k : Int) < 4 := by omega
        have h0k : (0 : Int) ≤ (k : Int) := by omega
        go_wp2_with fail
        refine (lower_is 69 101 (by decide +kernel) _).mono ?_
        rintro e w' ⟨rfl, rfl⟩
        dsimp only
        replace f1 : ¬ (1152921504606846976 : Int) ≤ (x : Int) := by omega
        go_wp2_with fail
        refine (lower_is 69 101 (by decide +kernel) _).mono ?_
        rintro e w' ⟨rfl, rfl⟩
        dsimp only
        replace f1 : ¬ (1152921504606846976 : Int) ≤ (x : Int) := by omega
        go_wp2_with fail
        refine (lower_is 69 101 (by decide +kernel) _).mono ?_
        rintro e w' ⟨rfl, rfl⟩
        dsimp only
        replace f1 : ¬ (1152921504606846976 : Int) ≤ (x : Int) := by omega
        go_wp2_with fail
        all_goals refine ⟨⟨k + 1, by omega, rfl, ?_, ?_, trivial⟩, ?_⟩
        all_goals first | (congr 1; have h := HS.out; omega) | (congr 1; done) | (simp [intOf]; omega)
      · simp [dg] at hc
        clear hd hs hlen hne hv16 hx hk
        have hlt' : (k : Int) < 4 := by omega
        have h0k : (0 : Int) ≤ (k : Int) := by omega
        go_wp2_with fail
        refine (lower_is 70 102 (by decide +kernel) _).mono ?_
        rintro e w' ⟨rfl, rfl⟩
        dsimp only
        replace f1 : ¬ (1152921504606846976 : Int) ≤ (x : Int) := by omega
        go_wp2_with fail
        refine (lower_is 70 102 (by decide +kernel) _).mono ?_
        rintro e w' ⟨rfl, rfl⟩
        dsimp only
        replace f1 : ¬ (1152921504606846976 : Int) ≤ (x : Int) := by omega
        go_wp2_with fail
        refine (lower_is 70 102 (by decide +kernel) _).mono ?_
        rintro e w' ⟨rfl, rfl⟩
        dsimp only
        replace f1 : ¬ (1152921504606846976 : Int) ≤ (x : Int) := by omega
        go_wp2_with fail
        all_goals refine ⟨⟨k + 1, by omega, rfl, ?_, ?_, trivial⟩, ?_⟩
        all_goals first | (congr 1; have h := HS.out; omega) | (congr 1; done) | (simp [intOf]; omega)
    · have : k = 4 := by omega
      subst this
      have ht : l.take 4 = l := by rw [← hl, List.take_length]
      rw [ht]
      go_wp2
      go_ret2
      exact ⟨rfl, hbel⟩

end Go.Proofs.Qxb6002372aDoor
