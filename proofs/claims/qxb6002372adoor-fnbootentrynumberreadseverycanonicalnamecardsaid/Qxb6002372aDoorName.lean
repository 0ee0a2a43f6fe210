/-
  Seat b6002372aD: bootNameModel.
-/
import Derived.Test.Qxb6002372aDoorParse
namespace Go.Proofs.Qxb6002372aDoor
open Go.RowKit

theorem Tryd.info5 : (Tryd.prog.info? 5).map (fun i => (i.zero, i.size, i.bytes)) = some (some (.int .u8 0), 1, 1) := by kernel_rfl

theorem made8 : madeCells #[Value.int .u8 0] 8 = #[.int .u8 0, .int .u8 0, .int .u8 0, .int .u8 0, .int .u8 0, .int .u8 0, .int .u8 0, .int .u8 0] := by
  apply Array.toList_inj.1
  rw [toList_madeCells_one]
  rfl

theorem mk8 (w : World) : (Instr.makeSlice 33 (.int .i64 8) (.int .i64 8)).run Tryd.prog w = .ok (.slice (some ⟨w.heap.size, 0, none⟩) 8 8) (w.alloc (.cells #[.int .u8 0, .int .u8 0, .int .u8 0, .int .u8 0, .int .u8 0, .int .u8 0, .int .u8 0, .int .u8 0] 5)) := by
  have h := run_make_row' (P := Tryd.prog) 33 5 (.int .u8 0) 1 Tryd.underlying33 Tryd.info5 rfl .i64 .i64 8 (by omega) (by omega) w
  rw [made8] at h
  exact h

/-- The table of digits. -/
theorem digit_at (v : Nat) (h : v < 16) (W : World) : (Instr.index 9 (.string ⟨#[48, 49, 50, 51, 52, 53, 54, 55, 56, 57, 65, 66, 67, 68, 69, 70]⟩) (.int .u16 (v : Int))).run Tryd.prog W = .ok (.int .u8 ((dg v).toNat : Int)) W := by
  have hcases : v = 0 ∨ v = 1 ∨ v = 2 ∨ v = 3 ∨ v = 4 ∨ v = 5 ∨ v = 6 ∨ v = 7 ∨ v = 8 ∨ v = 9 ∨ v = 10 ∨ v = 11 ∨ v = 12 ∨ v = 13 ∨ v = 14 ∨ v = 15 := by omega
  rcases hcases with rfl | rfl | rfl | rfl | rfl | rfl | rfl | rfl | rfl | rfl | rfl | rfl | rfl | rfl | rfl | rfl
  all_goals (simp [Instr.index, Sem.run_bind, asIntOf, run_underlying Tryd.underlying9 W, dg]; rfl)

/-- The bytes of Boot. -/
def boot : List UInt8 := [66, 111, 111, 116]

set_option maxRecDepth 100000 in
set_option maxHeartbeats 2000000 in
/-- bootNameModel. -/
theorem name_digits (n : Int) (d3 d2 d1 d0 : Nat) (_h0 : 0 ≤ n) (_h1 : n < 65536) (k3 : d3 < 16) (k2 : d2 < 16) (k1 : d1 < 16) (k0 : d0 < 16)
    (a3 : bits BinOp.and IntKind.u16 (n / 4096) 15 = (d3 : Int)) (a2 : bits BinOp.and IntKind.u16 (n / 256) 15 = (d2 : Int)) (a1 : bits BinOp.and IntKind.u16 (n / 16) 15 = (d1 : Int)) (a0 : bits BinOp.and IntKind.u16 n 15 = (d0 : Int)) (w : World) :
    Calls Tryd.prog 6 #[.int .u16 n] w fun e w' => e = .returned (.string (B (boot ++ dgs [d3, d2, d1, d0]))) ∧ Below w.heap.size w w' := by
  have hmk := mk8
  have i3 := digit_at d3 k3
  have i2 := digit_at d2 k2
  have i1 := digit_at d1 k1
  have i0 := digit_at d0 k0
  have hcv := run_convert_bytes_back (P := Tryd.prog) (w.alloc (.cells #[.int .u8 66, .int .u8 111, .int .u8 111, .int .u8 116, .int .u8 ((dg d3).toNat : Int), .int .u8 ((dg d2).toNat : Int), .int .u8 ((dg d1).toNat : Int), .int .u8 ((dg d0).toNat : Int)] 5)) 33 9 5 ⟨w.heap.size, 0, none⟩ 8 (boot ++ dgs [d3, d2, d1, d0]) Tryd.underlying33 Tryd.underlying5 Tryd.underlying9 (fun j hj => by
    have hadd : (⟨w.heap.size, 0, none⟩ : Addr).add j = ⟨w.heap.size, j, none⟩ := by unfold Addr.add; split <;> simp_all
    rw [hadd, World.cell?_alloc_new]
    have hj' : j < 8 := hj
    have hcases : j = 0 ∨ j = 1 ∨ j = 2 ∨ j = 3 ∨ j = 4 ∨ j = 5 ∨ j = 6 ∨ j = 7 := by omega
    rcases hcases with rfl | rfl | rfl | rfl | rfl | rfl | rfl | rfl
    all_goals rfl)
  have hcv' : (convert 33 9 (.slice (some ⟨w.heap.size, 0, none⟩) 8 8)).run Tryd.prog (w.alloc (.cells #[.int .u8 66, .int .u8 111, .int .u8 111, .int .u8 116, .int .u8 ((dg d3).toNat : Int), .int .u8 ((dg d2).toNat : Int), .int .u8 ((dg d1).toNat : Int), .int .u8 ((dg d0).toNat : Int)] 5)) = .ok (.string (B (boot ++ dgs [d3, d2, d1, d0]))) (w.alloc (.cells #[.int .u8 66, .int .u8 111, .int .u8 111, .int .u8 116, .int .u8 ((dg d3).toNat : Int), .int .u8 ((dg d2).toNat : Int), .int .u8 ((dg d1).toNat : Int), .int .u8 ((dg d0).toNat : Int)] 5)) := hcv
  clear hcv
  go_enter Tryd.func6, Tryd.ntmps6
  go_wp2_with fail
  go_ret
  exact ⟨rfl, (Below.refl _ _).alloc (Nat.le_refl _) _⟩

/-- The digits of n, from the top. -/
def hex4 (n : Nat) : List Nat := [n / 4096 % 16, n / 256 % 16, n / 16 % 16, n % 16]

theorem and15 (m : Nat) (h : m < 65536) (x : Int) (hx : x = (m : Int)) : bits BinOp.and IntKind.u16 x 15 = ((m % 16 : Nat) : Int) := by
  subst hx
  rw [show (15 : Int) = ((15 : Nat) : Int) from rfl, u16_and_nat m 15 h (by omega)]
  congr 1
  exact Nat.and_two_pow_sub_one_eq_mod m 4

theorem name_any (n : Nat) (h : n < 65536) (w : World) :
    Calls Tryd.prog 6 #[.int .u16 (n : Int)] w fun e w' => e = .returned (.string (B (boot ++ dgs (hex4 n)))) ∧ Below w.heap.size w w' :=
  name_digits (n : Int) (n / 4096 % 16) (n / 256 % 16) (n / 16 % 16) (n % 16) (by omega) (by omega) (by omega) (by omega) (by omega) (by omega)
    (and15 (n / 4096) (by omega) _ (by omega)) (and15 (n / 256) (by omega) _ (by omega)) (and15 (n / 16) (by omega) _ (by omega)) (and15 n h _ rfl) w

theorem val_hex4 (n : Nat) (h : n < 65536) : val (hex4 n) = n := by
  simp only [val, hex4, List.foldl_cons, List.foldl_nil]
  omega

end Go.Proofs.Qxb6002372aDoor
