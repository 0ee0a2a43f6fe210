/-
  Seat b6002351aF: FnDecodeRequestAcceptsOnlyEncodings, walked.
-/
import Derived.Test.Qxb6002351aFmtZz
import Derived.Test.Qxb6002351aFmtPlain
namespace Go.Proofs.Qxb6002351aFmt
open Go.RowKit Go.Extern.Stop Go.Stop Go.Extern

theorem below_of {w w' : World} (h : w.grownBy w' none) : Below w.heap.size w w' := ⟨h.os, h.tape, h.output, h.size, fun k hk => h.block k hk (by simp)⟩
theorem grown_drewN (w : World) (n : Nat) (row : Option Nat) : w.grownBy (w.drewN n) row := ⟨rfl, rfl, rfl, Nat.le_refl _, fun _ _ _ => rfl⟩

theorem Enc.rd {w : World} {g cap : Nat} {l : List UInt8} (h : Enc w g cap l) : Rd (g + 1) w (.slice (some ⟨g, 0, none⟩) l.length cap) l := by
  refine ⟨_, _, rfl, .inr ⟨g, 0, rfl, by omega, fun i hi => ?_⟩⟩
  rcases h.2 with ⟨h, _⟩ | ⟨g', cap', cur, hv, _, hg, h1, h2, h3, h4⟩
  · cases h
  · cases hv
    have e : (bc l)[i]? = some (.int .u8 ((l.getD i 0).toNat : Int)) := by simp [bc, List.getD, hi]
    rw [← h4] at e
    simp only [Nat.mul_one] at e
    rw [List.getElem?_take] at e
    rw [if_pos (by omega)] at e
    have e' : cur[i]? = some (.int .u8 ((l.getD i 0).toNat : Int)) := by simpa using e
    simp [World.cell?, hg, e']

/-- uint64 of an int64 and back. -/
theorem conv_u64 (x : Nat) (hx : x < 18446744073709551616) (W : World) : (convert 2 24 (.int .i64 (s64 x))).run Tryf.prog W = .ok (.int .u64 (x : Int)) W := by
  have h := run_convert_int (P := Tryf.prog) W 2 24 .i64 (s64 x) (by rw [Tryf.underlying2]; rfl) Tryf.underlying24
  rw [h]
  have : (Tryf.prog.intKind 24) = .u64 := by kernel_rfl
  rw [this]
  have e : IntKind.wrap .u64 (s64 x) = (x : Int) := by
    by_cases hc : x < 9223372036854775808
    · simp [IntKind.wrap, IntKind.bits, IntKind.signed, s64, hc]; omega
    · simp [IntKind.wrap, IntKind.bits, IntKind.signed, s64, hc]; omega
  rw [e]

set_option maxHeartbeats 400000 in
theorem zz12_big (a : Option Addr) (n c : Nat) (w : World) (hn : 1048576 < n) : Calls Tryf.prog 12 #[.slice a n c] w fun e w' => e = .returned (.bool false) ∧ w' = w := by
  go_enter Tryf.func12, Tryf.ntmps12
  go_wp2
  go_ret
  exact ⟨rfl, rfl⟩

set_option maxHeartbeats 400000 in
theorem zz12_ok (a : Option Addr) (n c : Nat) (w : World) (hn : n ≤ 1048576) : Calls Tryf.prog 12 #[.slice a n c] w fun e w' => e = .returned (.bool true) ∧ w' = w := by
  have hn' : ¬ 1048576 < n := by omega
  go_enter Tryf.func12, Tryf.ntmps12
  go_wp2
  go_ret
  exact ⟨rfl, rfl⟩

set_option maxHeartbeats 400000 in
theorem lawC_big (a : Option Addr) (n c : Nat) (w : World) (hn : 1048576 < n) : Calls Tryf.prog 5 #[.slice a n c] w fun e w' => e = .returned (.bool true) ∧ Below w.heap.size w w' := by
  go_enter Tryf.func5, Tryf.ntmps5
  go_wp2_with fail
  refine (zz12_big a n c w hn).mono ?_
  rintro e w1 ⟨rfl, hw⟩
  obtain rfl : w = w1 := hw.symm
  go_wp2
  go_ret
  exact ⟨rfl, Below.refl _ _⟩

set_option maxHeartbeats 4000000 in
theorem lawC_small (F : Interp) (a : Option Addr) (c : Nat) (xs : List UInt8) (w : World) (hn : xs.length ≤ 1048576) (hF : F.answers w.tape) (hv : Rd w.heap.size w (.slice a xs.length c) xs) :
    Calls Tryf.prog 5 #[.slice a xs.length c] w fun e w' => e = .returned (.bool true) ∧ Below w.heap.size w w' := by
  have hn' : ¬ 1048576 < xs.length := by omega
  go_enter Tryf.func5, Tryf.ntmps5
  go_wp2_with fail
  refine (zz12_ok a xs.length c w hn).mono ?_
  rintro e w1 ⟨rfl, hw⟩
  obtain rfl : w = w1 := hw.symm
  go_wp2_with fail
  refine (clone_any hv (by omega)).mono ?_
  rintro e w1 ⟨a1, rfl, r1, g1⟩
  have hF1 : F.answers w1.tape := by rw [g1.tape]; exact hF
  have H2 := zz_any F a1 xs.length xs w1 hF1 r1 (Nat.le_refl _)
  clear hv
  go_wp2_with fail
  refine H2.mono ?_
  clear H2
  rintro e w2 ⟨a6, n6, c6, a9, n9, c9, er, rfl, hE, ⟨r6, r9⟩, g2⟩
  have HG : Hid (w.grownBy w2 none) := g1.trans g2
  have HR1 : Hid (Rd w1.heap.size w2 (.slice a1 xs.length xs.length) xs) := r1.grown g2 (Nat.le_refl _) (by simp)
  have HR6 : Hid (Rd w1.heap.size w2 (.slice a6 n6 c6) (reqOf xs).value) := r6.grown g2 (Nat.le_refl _) (by simp)
  have HR9 : Hid (Rd w1.heap.size w2 (.slice a9 n9 c9) (reqOf xs).data) := r9.grown g2 (Nat.le_refl _) (by simp)
  have hsz : w1.heap.size ≤ w2.heap.size := g2.size
  clear g1 g2 r1 r6 r9 hF hF1
  rcases hE with ⟨hfit, rfl⟩ | ⟨hfit, ty, u, rfl⟩
  · have HFi : Hid (fits xs) := hfit
    have HW : Hid (wire (reqOf xs) = xs) := wire_read xs hfit
    have HB : Hid (Fit (reqOf xs)) := fits_bounds xs hfit (by omega)
    clear hfit
    generalize reqOf xs = r at HR6 HR9 HW HB
    obtain ⟨op, cache, frm, key, mode, value, flags, expires, cas, delta, view, data⟩ := r
    obtain ⟨b0, b1, b2, b3, b4, b5, b6, k0, k1, k2, k3, k4⟩ := HB.out
    simp only at b0 b1 b2 b3 b4 b5 b6 k0 k1 k2 k3 k4
    have hu := conv_u64 expires k1
    dsimp only [reqVals]
    clear HB
    generalize hex : s64 expires = ex at hu
    have HX : Hid (s64 expires = ex) := hex
    clear hex
    go_wp2_with fail
    have g3 := World.grownBy_alloc w2 (.cells #[.string (B op), .string (B cache), .string (B frm), .string (B key), .string (B mode), .slice a6 n6 c6, .int .u32 (flags : Int), .int .i64 ex, .int .u64 (cas : Int), .int .u64 (delta : Int), .int .u64 (view : Int), .slice a9 n9 c9] 29) none
    generalize (w2.alloc (.cells #[.string (B op), .string (B cache), .string (B frm), .string (B key), .string (B mode), .slice a6 n6 c6, .int .u32 (flags : Int), .int .i64 ex, .int .u64 (cas : Int), .int .u64 (delta : Int), .int .u64 (view : Int), .slice a9 n9 c9] 29)) = wA at g3 ⊢
    refine (encode_any op cache frm key mode value data flags expires cas delta view ex _ _ wA b0 b1 b2 b3 b4 b5 b6 k0 k1 k2 k3 k4 hu ((HR6.out.grown g3 hsz (by simp)).mono (Nat.le_trans hsz g3.size)) ((HR9.out.grown g3 hsz (by simp)).mono (Nat.le_trans hsz g3.size))).mono ?_
    rintro e w3 ⟨n, rfl, hnl, hE, g4⟩
    rw [HW.out] at hnl hE
    have hr3 := hE.rd
    subst hnl
    have hr1 : Rd w1.heap.size w3 (.slice a1 xs.length xs.length) xs := ((HR1.out.grown g3 hsz (by simp)).grown g4 (Nat.le_trans hsz g3.size) (by simp))
    have HG4 : Hid (w.grownBy w3 none) := (HG.out.trans g3).trans g4
    have H5 := same_any hr3 hr1 (by omega)
    clear g3 g4 hE hr3 hr1
    go_wp2_with fail
    refine H5.mono ?_
    rintro e w4 ⟨rfl, m, rfl⟩
    go_wp2
    go_ret
    exact ⟨rfl, below_of (HG4.out.trans (grown_drewN _ _ _))⟩
  · clear hfit
    dsimp only [reqVals]
    go_wp2
    go_ret
    exact ⟨rfl, below_of (HG.out.trans (World.grownBy_alloc _ _ _))⟩

end Go.Proofs.Qxb6002351aFmt
