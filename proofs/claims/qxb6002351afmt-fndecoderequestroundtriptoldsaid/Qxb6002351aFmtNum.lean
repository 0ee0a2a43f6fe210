/-
  Seat b6002351aF: the numbers that came in.
-/
import Derived.Test.Qxb6002351aFmtOpen
import Derived.Test.Qxb6002351aFmtEnt
namespace Go.Proofs.Qxb6002351aFmt
open Go.RowKit

theorem nat_u32 {n : Int} (h : (Lit.int .u32 n).wf = true) : ∃ k : Nat, n = (k : Int) ∧ k < 4294967296 := by
  simp [Lit.wf, IntKind.min, IntKind.max, IntKind.signed, IntKind.bits] at h
  exact ⟨n.toNat, by omega, by omega⟩
theorem nat_u64 {n : Int} (h : (Lit.int .u64 n).wf = true) : ∃ k : Nat, n = (k : Int) ∧ k < 18446744073709551616 := by
  simp [Lit.wf, IntKind.min, IntKind.max, IntKind.signed, IntKind.bits] at h
  exact ⟨n.toNat, by omega, by omega⟩
theorem i64_bounds {n : Int} (h : (Lit.int .i64 n).wf = true) : -9223372036854775808 ≤ n ∧ n ≤ 9223372036854775807 := by
  simp [Lit.wf, IntKind.min, IntKind.max, IntKind.signed, IntKind.bits] at h
  omega

/-- An int64 is the int64 of its own uint64. -/
theorem s64_of {n : Int} (h : -9223372036854775808 ≤ n ∧ n ≤ 9223372036854775807) : ∃ x : Nat, x < 18446744073709551616 ∧ s64 x = n := by
  by_cases hn : 0 ≤ n
  · refine ⟨n.toNat, by omega, ?_⟩
    unfold s64
    rw [if_pos (by omega)]
    omega
  · refine ⟨(n + 18446744073709551616).toNat, by omega, ?_⟩
    unfold s64
    rw [if_neg (by omega)]
    omega

/-- A string that came in. -/
theorem str_B (s : ByteArray) : ∃ l : List UInt8, s = B l ∧ l.length = s.size :=
  ⟨s.data.toList, B_ext rfl, Array.length_toList⟩

end Go.Proofs.Qxb6002351aFmt
