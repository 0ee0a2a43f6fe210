/-
  Seat b6002372aD: strconv.ParseUint, BootEntryNumber, the law's function.
-/
import Derived.Test.Qxb6002372aDoorName
import Derived.Laws.RangeString
namespace Go.Proofs.Qxb6002372aDoor
open Go.RowKit
theorem B_extract (l : List UInt8) (i j : Nat) : (B l).extract i j = B ((l.take j).drop i) := by
  apply ByteArray.ext
  simp [B, ByteArray.data_extract, List.drop_take]

theorem slice_to_B (l : List UInt8) (k : Int) (h0 : 0 ≤ k) (h1 : k ≤ l.length) (W : World) : (Instr.slice 9 (.string (B l)) none (some (.int .i64 k)) none).run Tryd.prog W = .ok (.string (B (l.take k.toNat))) W := by
  rw [run_slice_string_h W 9 (B l) Tryd.underlying9 .i64 k h0 (by rw [B_size]; exact h1), B_extract]
  simp

theorem slice_from_B (l : List UInt8) (k : Int) (h0 : 0 ≤ k) (h1 : k ≤ l.length) (W : World) : (Instr.slice 9 (.string (B l)) (some (.int .i64 k)) none none).run Tryd.prog W = .ok (.string (B (l.drop k.toNat))) W := by
  rw [run_slice_string_l W 9 (B l) Tryd.underlying9 .i64 k h0 (by rw [B_size]; exact h1), B_extract, B_size, List.take_of_length_le (by simp)]

theorem dg_range (v : Nat) (h : v < 16) : ((48 : Int) ≤ ((dg v).toNat : Int) ∧ ((dg v).toNat : Int) ≤ 57) ∨ ((65 : Int) ≤ ((dg v).toNat : Int) ∧ ((dg v).toNat : Int) ≤ 70) := by
  have hcases : v = 0 ∨ v = 1 ∨ v = 2 ∨ v = 3 ∨ v = 4 ∨ v = 5 ∨ v = 6 ∨ v = 7 ∨ v = 8 ∨ v = 9 ∨ v = 10 ∨ v = 11 ∨ v = 12 ∨ v = 13 ∨ v = 14 ∨ v = 15 := by omega
  rcases hcases with rfl | rfl | rfl | rfl | rfl | rfl | rfl | rfl | rfl | rfl | rfl | rfl | rfl | rfl | rfl | rfl
  all_goals decide

set_option maxRecDepth 100000 in
set_option maxHeartbeats 2000000 in
/-- strconv.ParseUint. -/
theorem parse_any (l : List Nat) (hl : l.length = 4) (hd : ∀ d ∈ l, d < 16) (w : World) :
    Calls Tryd.prog 8 #[.string (B (dgs l)), .int .i64 16, .int .i64 16] w fun e w' => e = .returned (.tuple #[.int .u64 (val l : Int), .nilIface]) ∧ Below w.heap.size w w' := by
  have HC := inner_any l hl hd w
  generalize val l = v at HC ⊢
  clear hd
  go_enter Tryd.func8, Tryd.ntmps8
  go_wp2_with fail
  refine HC.mono ?_
  rintro e w1 ⟨rfl, hbel⟩
  dsimp only
  clear HC
  go_wp2_with fail
  go_ret2
  exact ⟨rfl, hbel⟩

set_option maxRecDepth 100000 in
set_option maxHeartbeats 2000000 in
/-- BootEntryNumber. -/
theorem boot_any (l : List Nat) (hl : l.length = 4) (hd : ∀ d ∈ l, d < 16) (w : World) :
    Calls Tryd.prog 5 #[.string (B (boot ++ dgs l))] w fun e w' => e = .returned (.tuple #[.int .u16 (val l : Int), .bool true]) ∧ Below w.heap.size w w' := by
  have hlen : (dgs l).length = 4 := by simp [dgs, hl]
  have hb : boot.length = 4 := rfl
  have hs8 : (B (boot ++ dgs l)).size = 8 := by rw [B_size, List.length_append, hlen, hb]
  have hs4 : (B (dgs l)).size = 4 := by rw [B_size, hlen]
  have HP : ∀ W : World, Hid (Calls Tryd.prog 8 #[.string (B (dgs l)), .int .i64 16, .int .i64 16] W fun e w' => e = .returned (.tuple #[.int .u64 (val l : Int), .nilIface]) ∧ Below W.heap.size W w') := fun W => parse_any l hl hd W
  have hto : ∀ W, (Instr.slice 9 (.string (B (boot ++ dgs l))) none (some (.int .i64 4)) none).run Tryd.prog W = .ok (.string ⟨#[66, 111, 111, 116]⟩) W := fun W => by
    rw [slice_to_B _ 4 (by omega) (by rw [List.length_append, hlen, hb]; omega) W, show (4 : Int).toNat = boot.length from rfl, List.take_left]
    rfl
  have hfrom : ∀ W, (Instr.slice 9 (.string (B (boot ++ dgs l))) (some (.int .i64 4)) none none).run Tryd.prog W = .ok (.string (B (dgs l))) W := fun W => by
    rw [slice_from_B _ 4 (by omega) (by rw [List.length_append, hlen, hb]; omega) W, show (4 : Int).toNat = boot.length from rfl, List.drop_left]
  have hx : val l < 65536 := by
    have := val_lt l hd 4 (by omega)
    rw [← hl, List.take_length, hl] at this
    omega
  have HN : ∀ pos, pos < 4 → Hid (∃ x : Int, ((48 ≤ x ∧ x ≤ 57) ∨ (65 ≤ x ∧ x ≤ 70)) ∧ ∀ ty, (Instr.next (.pointer (some ⟨w.heap.size, 0, none⟩)) true ty).run Tryd.prog (w.iter (B (dgs l)) pos) = .ok (.tuple #[.bool true, .int .i64 pos, .int .i32 x]) (w.iter (B (dgs l)) (pos + 1))) := by
    intro pos hp
    have hps : pos < (B (dgs l)).size := by omega
    have hv16 : l.getD pos 0 < 16 := hd _ (by simp [List.getD, show pos < l.length by omega])
    have hsp : (B (dgs l))[pos]'hps = dg (l.getD pos 0) := by
      show (B (dgs l)).data[pos] = _
      simp [B, dgs, List.getD, show pos < l.length by omega]
    refine ⟨((dg (l.getD pos 0)).toNat : Int), dg_range _ hv16, fun ty => ?_⟩
    have hr := dg_range _ hv16
    rw [run_next_ascii w (B (dgs l)) pos ty hps (by rw [hsp]; omega), hsp]
  generalize val l = v at HP hx ⊢
  generalize B (boot ++ dgs l) = s8 at hs8 hto hfrom ⊢
  generalize B (dgs l) = s at hs4 HP hfrom HN
  clear hd hlen hb hl
  go_enter Tryd.func5, Tryd.ntmps5
  go_wp2_with fail
  go_loopw [5] (fun _ w' => ∃ pos : Nat, pos ≤ 4 ∧ w' = w.iter s pos) (fun _ w' => 4 - w'.iterPos w.heap.size)
  case atStart => exact ⟨0, by omega, rfl⟩
  case round =>
    obtain ⟨pos, hp, rfl⟩ := hrel
    by_cases hlt : pos < 4
    · obtain ⟨x, hx, hnx⟩ := (HN pos hlt).out
      clear hp
      rcases hx with ⟨x1, x2⟩ | ⟨x1, x2⟩
      all_goals go_wp2_with fail
      all_goals exact ⟨⟨pos + 1, by omega, rfl⟩, by simp; omega⟩
    · have hnx : ∀ ty, (Instr.next (.pointer (some ⟨w.heap.size, 0, none⟩)) true ty).run Tryd.prog (w.iter s pos) = _ := fun ty => run_next_end w s pos ty (by omega)
      have hb0 : Below w.heap.size w (w.iter s pos) := (Below.refl _ _).alloc (Nat.le_refl _) _
      go_wp2_with fail
      refine (HP (w.iter s pos)).out.mono ?_
      rintro e w2 ⟨rfl, hbel⟩
      dsimp only
      have HB : Hid (Below w.heap.size w w2) := hb0.trans (hbel.mono (by simp [World.iter]))
      clear hb0 hbel HP HN hfrom hto hnx
      go_wp2_with fail
      go_quiet (fail)
      go_wp2
      go_ret2
      exact ⟨rfl, HB.out.trans ⟨rfl, rfl, rfl, Nat.le_refl _, fun _ _ => rfl⟩⟩

theorem hex4_length (n : Nat) : (hex4 n).length = 4 := rfl
theorem hex4_lt (n : Nat) : ∀ d ∈ hex4 n, d < 16 := by
  intro d hd
  simp only [hex4, List.mem_cons, List.not_mem_nil, or_false] at hd
  omega

set_option maxRecDepth 100000 in
set_option maxHeartbeats 2000000 in
/-- The law's function. -/
theorem law_any (n : Nat) (h : n < 65536) (w : World) :
    Calls Tryd.prog 3 #[.int .u16 (n : Int)] w fun e w' => e = .returned (.bool true) ∧ Below w.heap.size w w' := by
  have HB : ∀ W : World, Hid (Calls Tryd.prog 5 #[.string (B (boot ++ dgs (hex4 n)))] W fun e w' => e = .returned (.tuple #[.int .u16 (n : Int), .bool true]) ∧ Below W.heap.size W w') := fun W => by
    have := boot_any (hex4 n) (hex4_length n) (hex4_lt n) W
    rw [val_hex4 n h] at this
    exact this
  have HA := name_any n h w
  generalize B (boot ++ dgs (hex4 n)) = s at HA HB
  go_enter Tryd.func3, Tryd.ntmps3
  go_wp2_with fail
  refine HA.mono ?_
  rintro e w1 ⟨rfl, hb1⟩
  dsimp only
  clear HA
  go_wp2_with fail
  refine (HB w1).out.mono ?_
  rintro e w2 ⟨rfl, hb2⟩
  dsimp only
  clear HB
  have HH : Hid (Below w.heap.size w w2) := hb1.trans (hb2.mono hb1.size)
  clear hb1 hb2
  go_wp2_with fail
  go_ret
  exact ⟨rfl, HH.out⟩
end Go.Proofs.Qxb6002372aDoor
