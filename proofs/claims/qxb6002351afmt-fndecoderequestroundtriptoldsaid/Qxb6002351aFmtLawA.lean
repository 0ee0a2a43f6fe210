/-
  Seat b6002351aF: FnDecodeRequestRoundTrip, walked.
-/
import Derived.Test.Qxb6002351aFmtLawB
namespace Go.Proofs.Qxb6002351aFmt
open Go.RowKit Go.Extern.Stop Go.Stop Go.Extern

set_option maxRecDepth 100000 in
set_option maxHeartbeats 1600000 in
theorem zz6_big (op cache frm key mode : List UInt8) (av : Option Addr) (nv cv : Nat) (fl ex cs de vi : Int) (ad : Option Addr) (nd cd : Nat) (w : World)
    (m0 : op.length ≤ 9223372036854775807) (m1 : cache.length ≤ 9223372036854775807) (m2 : frm.length ≤ 9223372036854775807) (m3 : key.length ≤ 9223372036854775807) (m4 : mode.length ≤ 9223372036854775807) (m5 : nv ≤ 9223372036854775807) (m6 : nd ≤ 9223372036854775807)
    (hn : 1048576 < op.length + cache.length + frm.length + key.length + mode.length + nv + nd) : Calls Tryf.prog 6 #[.string (B op), .string (B cache), .string (B frm), .string (B key), .string (B mode), .slice av nv cv, .int .u32 fl, .int .i64 ex, .int .u64 cs, .int .u64 de, .int .u64 vi, .slice ad nd cd] w fun e w' => e = .returned (.bool false) ∧ w' = w := by
  have s0 := B_size op
  have s1 := B_size cache
  have s2 := B_size frm
  have s3 := B_size key
  have s4 := B_size mode
  go_enter Tryf.func6, Tryf.ntmps6
  go_wp2
  all_goals first | (go_ret; exact ⟨rfl, rfl⟩) | (exfalso; omega)

set_option maxRecDepth 100000 in
set_option maxHeartbeats 1600000 in
theorem zz6_ok (op cache frm key mode : List UInt8) (av : Option Addr) (nv cv : Nat) (fl ex cs de vi : Int) (ad : Option Addr) (nd cd : Nat) (w : World)
    (hn : op.length + cache.length + frm.length + key.length + mode.length + nv + nd ≤ 1048576) : Calls Tryf.prog 6 #[.string (B op), .string (B cache), .string (B frm), .string (B key), .string (B mode), .slice av nv cv, .int .u32 fl, .int .i64 ex, .int .u64 cs, .int .u64 de, .int .u64 vi, .slice ad nd cd] w fun e w' => e = .returned (.bool true) ∧ w' = w := by
  have s0 := B_size op
  have s1 := B_size cache
  have s2 := B_size frm
  have s3 := B_size key
  have s4 := B_size mode
  go_enter Tryf.func6, Tryf.ntmps6
  go_wp2
  all_goals first | (go_ret; exact ⟨rfl, rfl⟩) | (exfalso; omega)

set_option maxRecDepth 100000 in
set_option maxHeartbeats 1600000 in
theorem lawA_big (op cache frm key mode : List UInt8) (av : Option Addr) (nv cv : Nat) (fl ex cs de vi : Int) (ad : Option Addr) (nd cd : Nat) (w : World)
    (m0 : op.length ≤ 9223372036854775807) (m1 : cache.length ≤ 9223372036854775807) (m2 : frm.length ≤ 9223372036854775807) (m3 : key.length ≤ 9223372036854775807) (m4 : mode.length ≤ 9223372036854775807) (m5 : nv ≤ 9223372036854775807) (m6 : nd ≤ 9223372036854775807)
    (hn : 1048576 < op.length + cache.length + frm.length + key.length + mode.length + nv + nd) : Calls Tryf.prog 3 #[.string (B op), .string (B cache), .string (B frm), .string (B key), .string (B mode), .slice av nv cv, .int .u32 fl, .int .i64 ex, .int .u64 cs, .int .u64 de, .int .u64 vi, .slice ad nd cd] w fun e w' => e = .returned (.bool true) ∧ Below w.heap.size w w' := by
  have H := zz6_big op cache frm key mode av nv cv fl ex cs de vi ad nd cd w m0 m1 m2 m3 m4 m5 m6 hn
  go_enter Tryf.func3, Tryf.ntmps3
  go_wp2_with fail
  refine H.mono ?_
  rintro e w1 ⟨rfl, hw⟩
  obtain rfl : w = w1 := hw.symm
  go_wp2
  go_ret
  exact ⟨rfl, Below.refl _ _⟩

set_option maxRecDepth 100000 in
set_option maxHeartbeats 8000000 in
theorem lawA_main (F : Interp) (op cache frm key mode value data : List UInt8) (flags expires cas delta view : Nat) (ex : Int) (av ad : Option Addr) (cv cd : Nat) (w : World) (hF : F.answers w.tape)
    (hn : op.length + cache.length + frm.length + key.length + mode.length + value.length + data.length ≤ 1048576) (k0 : flags < 4294967296) (k1 : expires < 18446744073709551616) (k2 : cas < 18446744073709551616) (k3 : delta < 18446744073709551616) (k4 : view < 18446744073709551616)
    (hex : s64 expires = ex) (hu : ∀ W, (convert 2 24 (.int .i64 ex)).run Tryf.prog W = .ok (.int .u64 expires) W)
    (hv : Rd w.heap.size w (.slice av value.length cv) value) (hd : Rd w.heap.size w (.slice ad data.length cd) data) :
    Calls Tryf.prog 3 #[.string (B op), .string (B cache), .string (B frm), .string (B key), .string (B mode), .slice av value.length cv, .int .u32 (flags : Int), .int .i64 ex, .int .u64 (cas : Int), .int .u64 (delta : Int), .int .u64 (view : Int), .slice ad data.length cd] w fun e w' => e = .returned (.bool true) ∧ Below w.heap.size w w' := by
  have H := zz6_ok op cache frm key mode av value.length cv flags ex cas delta view ad data.length cd w hn
  have s0 := B_size op
  have s1 := B_size cache
  have s2 := B_size frm
  have s3 := B_size key
  have s4 := B_size mode
  have i0 : ¬ (1048576 : Int) < (op.length : Int) := by omega
  have i1 : ¬ (1048576 : Int) < (cache.length : Int) := by omega
  have i2 : ¬ (1048576 : Int) < (frm.length : Int) := by omega
  have i3 : ¬ (1048576 : Int) < (key.length : Int) := by omega
  have i4 : ¬ (1048576 : Int) < (mode.length : Int) := by omega
  have i5 : ¬ (1048576 : Int) < (value.length : Int) := by omega
  have i6 : ¬ (1048576 : Int) < (data.length : Int) := by omega
  have i8 : ¬ (1048576 : Int) < (op.length : Int) + cache.length + frm.length + key.length + mode.length + value.length + data.length := by omega
  have HU : Hid (∀ W, (convert 2 24 (.int .i64 ex)).run Tryf.prog W = .ok (.int .u64 expires) W) := hu
  have HX : Hid (s64 expires = ex) := hex
  have HD : Hid (Rd w.heap.size w (.slice ad data.length cd) data) := hd
  have HC := clone_any hv (by omega)
  clear hu hv hd hex
  go_enter Tryf.func3, Tryf.ntmps3
  go_wp2_with fail
  refine H.mono ?_
  rintro e w1 ⟨rfl, hw⟩
  obtain rfl : w = w1 := hw.symm
  clear H
  go_wp2_with fail
  refine HC.mono ?_
  clear HC
  rintro e w1 ⟨a1, rfl, r1, g1⟩
  have HC := clone_any ((HD.out.grown g1 (Nat.le_refl _) (by simp)).mono g1.size) (by omega)
  have HG1 : Hid (w.grownBy w1 none) := g1
  have HR1 : Hid (Rd w1.heap.size w1 (.slice a1 value.length value.length) value) := r1
  clear g1 r1 HD
  go_wp2_with fail
  refine HC.mono ?_
  clear HC
  rintro e w3 ⟨a2, rfl, r2, g2⟩
  have HG3 : Hid (w.grownBy w3 none) := HG1.out.trans g2
  have HV3 : Hid (Rd w3.heap.size w3 (.slice a1 value.length value.length) value) := (HR1.out.grown g2 (Nat.le_refl _) (by simp)).mono g2.size
  have HD3 : Hid (Rd w3.heap.size w3 (.slice a2 data.length data.length) data) := r2
  clear g2 r2 HR1 HG1
  obtain ⟨m, hm⟩ : ∃ m, m = wire ⟨op, cache, frm, key, mode, value, flags, expires, cas, delta, view, data⟩ := ⟨_, rfl⟩
  have hml : m.length = 20 + op.length + cache.length + frm.length + key.length + mode.length + 4 + value.length + 4 + 8 + 8 + 8 + 8 + 4 + data.length := by
    rw [hm]; simp only [wire, List.length_append, fld_length, Lib.beBytes_length]; omega
  have hfit : Fit ⟨op, cache, frm, key, mode, value, flags, expires, cas, delta, view, data⟩ := fit_mk (by omega) (by omega) (by omega) (by omega) (by omega) (by omega) (by omega) k0 k1 k2 k3 k4
  have HC := encode_at op cache frm key mode value data flags expires cas delta view ex delta view _ _ w3 (by omega) (by omega) (by omega) (by omega) (by omega) (by omega) (by omega) k0 k1 k2 k3 k4 rfl rfl HU.out HV3.out HD3.out m hm
  have HFE : Hid (fits m ∧ reqOf m = ⟨op, cache, frm, key, mode, value, flags, expires, cas, delta, view, data⟩) := by
    have h1 := (fits_wire _ [] hfit).2 rfl
    have h2 := (read_wire _ [] hfit).2
    rw [List.append_nil, ← hm] at h1 h2
    exact ⟨h1, h2⟩
  have Hml : Hid (m.length ≤ 2000000) := by unfold Hid; omega
  clear hml hfit hm HU i0 i1 i2 i3 i4 i5 i6 i8 k0 k1 k2 k3 k4
  go_wp2_with fail
  refine HC.mono ?_
  clear HC
  rintro e w4 ⟨rfl, hE, g4⟩
  have hlt4 := enc_lt hE
  have hF4 : F.answers w4.tape := by rw [g4.tape, HG3.out.tape]; exact hF
  have HP := zz_any F (some ⟨w3.heap.size, 0, none⟩) m.length m w4 hF4 (hE.rd.mono hlt4) (Nat.le_refl _)
  have HG4 : Hid (w.grownBy w4 none) := HG3.out.trans g4
  have HV4 : Hid (Rd w4.heap.size w4 (.slice a1 value.length value.length) value) := (HV3.out.grown g4 (Nat.le_refl _) (by simp)).mono g4.size
  have HD4 : Hid (Rd w4.heap.size w4 (.slice a2 data.length data.length) data) := (HD3.out.grown g4 (Nat.le_refl _) (by simp)).mono g4.size
  clear hE g4 HG3 HV3 HD3 hF hF4
  generalize w3.heap.size = g at *
  go_wp2_with fail
  refine HP.mono ?_
  clear HP
  rintro e w5 ⟨a6, n6, c6, a9, n9, c9, er, rfl, hEr, ⟨r6, r9⟩, g5⟩
  have hEn : er = .nilIface := by
    rcases hEr with ⟨_, h⟩ | ⟨hf, _⟩
    · exact h
    · exact absurd HFE.out.1 hf
  subst hEn
  clear hEr
  rw [HFE.out.2] at r6 r9 ⊢
  dsimp only [reqVals] at r6 r9 ⊢
  rw [HX.out]
  have g6 := World.grownBy_alloc w5 (.cells #[.string (B op), .string (B cache), .string (B frm), .string (B key), .string (B mode), .slice a6 n6 c6, .int .u32 (flags : Int), .int .i64 ex, .int .u64 (cas : Int), .int .u64 (delta : Int), .int .u64 (view : Int), .slice a9 n9 c9] 29) none
  have R6 : Hid (Rd w4.heap.size (w5.alloc (.cells #[.string (B op), .string (B cache), .string (B frm), .string (B key), .string (B mode), .slice a6 n6 c6, .int .u32 (flags : Int), .int .i64 ex, .int .u64 (cas : Int), .int .u64 (delta : Int), .int .u64 (view : Int), .slice a9 n9 c9] 29)) (.slice a6 n6 c6) value) := (r6.grown g5 (Nat.le_refl _) (by simp)).grown g6 g5.size (by simp)
  have R9 : Hid (Rd w4.heap.size (w5.alloc (.cells #[.string (B op), .string (B cache), .string (B frm), .string (B key), .string (B mode), .slice a6 n6 c6, .int .u32 (flags : Int), .int .i64 ex, .int .u64 (cas : Int), .int .u64 (delta : Int), .int .u64 (view : Int), .slice a9 n9 c9] 29)) (.slice a9 n9 c9) data) := (r9.grown g5 (Nat.le_refl _) (by simp)).grown g6 g5.size (by simp)
  have RV : Hid (Rd w4.heap.size (w5.alloc (.cells #[.string (B op), .string (B cache), .string (B frm), .string (B key), .string (B mode), .slice a6 n6 c6, .int .u32 (flags : Int), .int .i64 ex, .int .u64 (cas : Int), .int .u64 (delta : Int), .int .u64 (view : Int), .slice a9 n9 c9] 29)) (.slice a1 value.length value.length) value) := (HV4.out.grown g5 (Nat.le_refl _) (by simp)).grown g6 g5.size (by simp)
  have RD : Hid (Rd w4.heap.size (w5.alloc (.cells #[.string (B op), .string (B cache), .string (B frm), .string (B key), .string (B mode), .slice a6 n6 c6, .int .u32 (flags : Int), .int .i64 ex, .int .u64 (cas : Int), .int .u64 (delta : Int), .int .u64 (view : Int), .slice a9 n9 c9] 29)) (.slice a2 data.length data.length) data) := (HD4.out.grown g5 (Nat.le_refl _) (by simp)).grown g6 g5.size (by simp)
  have HG6 : Hid (w.grownBy (w5.alloc (.cells #[.string (B op), .string (B cache), .string (B frm), .string (B key), .string (B mode), .slice a6 n6 c6, .int .u32 (flags : Int), .int .i64 ex, .int .u64 (cas : Int), .int .u64 (delta : Int), .int .u64 (view : Int), .slice a9 n9 c9] 29)) none) := (HG4.out.trans g5).trans g6
  have HsA := same_any R6.out RV.out (by omega)
  have hdv : decide (value = value) = true := by simp
  have hdd : decide (data = data) = true := by simp
  rw [hdv] at HsA
  have HsB : ∀ k, Calls Tryf.prog 10 #[.slice a9 n9 c9, .slice a2 data.length data.length] ((w5.alloc (.cells #[.string (B op), .string (B cache), .string (B frm), .string (B key), .string (B mode), .slice a6 n6 c6, .int .u32 (flags : Int), .int .i64 ex, .int .u64 (cas : Int), .int .u64 (delta : Int), .int .u64 (view : Int), .slice a9 n9 c9] 29)).drewN k) fun e w' => e = .returned (.bool true) ∧ ∃ j, w' = ((w5.alloc (.cells #[.string (B op), .string (B cache), .string (B frm), .string (B key), .string (B mode), .slice a6 n6 c6, .int .u32 (flags : Int), .int .i64 ex, .int .u64 (cas : Int), .int .u64 (delta : Int), .int .u64 (view : Int), .slice a9 n9 c9] 29)).drewN k).drewN j := by
    intro k
    have h := same_any (R9.out.grown (grown_drewN _ k none) (Nat.le_trans g5.size g6.size) (by simp)) (RD.out.grown (grown_drewN _ k none) (Nat.le_trans g5.size g6.size) (by simp)) (by omega)
    rw [hdd] at h
    exact h
  clear r6 r9 g5 g6 R6 R9 RV RD HV4 HD4 HG4 HFE hdv hdd
  go_wp2_with fail
  refine HsA.mono ?_
  clear HsA
  rintro e w6 ⟨rfl, j6, rfl⟩
  go_wp2_with fail
  refine (HsB j6).mono ?_
  rintro e w7 ⟨rfl, j7, rfl⟩
  go_wp2
  go_ret
  exact ⟨rfl, below_of (HG6.out.trans (grown_drewN _ _ _))⟩

end Go.Proofs.Qxb6002351aFmt
