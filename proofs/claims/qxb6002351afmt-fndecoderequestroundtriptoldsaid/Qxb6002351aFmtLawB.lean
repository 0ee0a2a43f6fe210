/-
  Seat b6002351aF: FnDecodeRequestRefusesCutOrExtra, walked.
-/
import Derived.Test.Qxb6002351aFmtLawC
namespace Go.Proofs.Qxb6002351aFmt
open Go.RowKit Go.Extern.Stop Go.Stop Go.Extern

set_option maxHeartbeats 1600000 in
theorem zz11_big (op cache frm key mode : List UInt8) (av : Option Addr) (nv cv : Nat) (fl ex cs : Int) (ad : Option Addr) (nd cd : Nat) (cut : Int) (at' : Option Addr) (nt ct : Nat) (w : World)
    (m0 : op.length ≤ 9223372036854775807) (m1 : cache.length ≤ 9223372036854775807) (m2 : frm.length ≤ 9223372036854775807) (m3 : key.length ≤ 9223372036854775807) (m4 : mode.length ≤ 9223372036854775807) (m5 : nv ≤ 9223372036854775807) (m6 : nd ≤ 9223372036854775807) (m7 : nt ≤ 9223372036854775807)
    (hn : 1048576 < op.length + cache.length + frm.length + key.length + mode.length + nv + nd + nt) : Calls Tryf.prog 11 #[.string (B op), .string (B cache), .string (B frm), .string (B key), .string (B mode), .slice av nv cv, .int .u32 fl, .int .i64 ex, .int .u64 cs, .slice ad nd cd, .int .i64 cut, .slice at' nt ct] w fun e w' => e = .returned (.bool false) ∧ w' = w := by
  have s0 := B_size op
  have s1 := B_size cache
  have s2 := B_size frm
  have s3 := B_size key
  have s4 := B_size mode
  go_enter Tryf.func11, Tryf.ntmps11
  go_wp2
  all_goals first | (go_ret; exact ⟨rfl, rfl⟩) | (exfalso; omega)

set_option maxHeartbeats 1600000 in
theorem zz11_ok (op cache frm key mode : List UInt8) (av : Option Addr) (nv cv : Nat) (fl ex cs : Int) (ad : Option Addr) (nd cd : Nat) (cut : Int) (at' : Option Addr) (nt ct : Nat) (w : World)
    (hn : op.length + cache.length + frm.length + key.length + mode.length + nv + nd + nt ≤ 1048576) : Calls Tryf.prog 11 #[.string (B op), .string (B cache), .string (B frm), .string (B key), .string (B mode), .slice av nv cv, .int .u32 fl, .int .i64 ex, .int .u64 cs, .slice ad nd cd, .int .i64 cut, .slice at' nt ct] w fun e w' => e = .returned (.bool true) ∧ w' = w := by
  have s0 := B_size op
  have s1 := B_size cache
  have s2 := B_size frm
  have s3 := B_size key
  have s4 := B_size mode
  go_enter Tryf.func11, Tryf.ntmps11
  go_wp2
  all_goals first | (go_ret; exact ⟨rfl, rfl⟩) | (exfalso; omega)

set_option maxHeartbeats 1600000 in
theorem lawB_big (op cache frm key mode : List UInt8) (av : Option Addr) (nv cv : Nat) (fl ex cs : Int) (ad : Option Addr) (nd cd : Nat) (cut : Int) (at' : Option Addr) (nt ct : Nat) (w : World)
    (m0 : op.length ≤ 9223372036854775807) (m1 : cache.length ≤ 9223372036854775807) (m2 : frm.length ≤ 9223372036854775807) (m3 : key.length ≤ 9223372036854775807) (m4 : mode.length ≤ 9223372036854775807) (m5 : nv ≤ 9223372036854775807) (m6 : nd ≤ 9223372036854775807) (m7 : nt ≤ 9223372036854775807)
    (hn : 1048576 < op.length + cache.length + frm.length + key.length + mode.length + nv + nd + nt) : Calls Tryf.prog 4 #[.string (B op), .string (B cache), .string (B frm), .string (B key), .string (B mode), .slice av nv cv, .int .u32 fl, .int .i64 ex, .int .u64 cs, .slice ad nd cd, .int .i64 cut, .slice at' nt ct] w fun e w' => e = .returned (.bool true) ∧ Below w.heap.size w w' := by
  have H := zz11_big op cache frm key mode av nv cv fl ex cs ad nd cd cut at' nt ct w m0 m1 m2 m3 m4 m5 m6 m7 hn
  go_enter Tryf.func4, Tryf.ntmps4
  go_wp2_with fail
  refine H.mono ?_
  rintro e w1 ⟨rfl, hw⟩
  obtain rfl : w = w1 := hw.symm
  go_wp2
  go_ret
  exact ⟨rfl, Below.refl _ _⟩


theorem encode_at (op cache frm key mode value data : List UInt8) (flags expires cas : Nat) (delta view : Nat) (ex de vi : Int) (vv vd : Value) (w : World)
    (h0 : op.length ≤ 2000000) (h1 : cache.length ≤ 2000000) (h2 : frm.length ≤ 2000000) (h3 : key.length ≤ 2000000) (h4 : mode.length ≤ 2000000) (h5 : value.length ≤ 2000000) (h6 : data.length ≤ 2000000)
    (k0 : flags < 4294967296) (k1 : expires < 18446744073709551616) (k2 : cas < 18446744073709551616) (k3 : delta < 18446744073709551616) (k4 : view < 18446744073709551616)
    (hde : de = (delta : Int)) (hvi : vi = (view : Int))
    (hex : ∀ W, (convert 2 24 (.int .i64 ex)).run Tryf.prog W = .ok (.int .u64 expires) W)
    (hvv : Rd w.heap.size w vv value) (hvd : Rd w.heap.size w vd data) (m : List UInt8) (hm : m = wire ⟨op, cache, frm, key, mode, value, flags, expires, cas, delta, view, data⟩) :
    Calls Tryf.prog 8 #[.string (B op), .string (B cache), .string (B frm), .string (B key), .string (B mode), vv, .int .u32 flags, .int .i64 ex, .int .u64 cas, .int .u64 de, .int .u64 vi, vd] w fun e w' =>
      e = .returned (.slice (some ⟨w.heap.size, 0, none⟩) m.length m.length) ∧ Enc w' w.heap.size m.length m ∧ w.grownBy w' none := by
  subst hde hvi hm
  refine (encode_any op cache frm key mode value data flags expires cas delta view ex vv vd w h0 h1 h2 h3 h4 h5 h6 k0 k1 k2 k3 k4 hex hvv hvd).mono ?_
  rintro e w' ⟨n, rfl, rfl, h, g⟩
  exact ⟨rfl, h, g⟩

theorem fit_mk {op cache frm key mode value data : List UInt8} {flags expires cas delta view : Nat}
    (h0 : op.length ≤ 2000000) (h1 : cache.length ≤ 2000000) (h2 : frm.length ≤ 2000000) (h3 : key.length ≤ 2000000) (h4 : mode.length ≤ 2000000) (h5 : value.length ≤ 2000000) (h6 : data.length ≤ 2000000)
    (k0 : flags < 4294967296) (k1 : expires < 18446744073709551616) (k2 : cas < 18446744073709551616) (k3 : delta < 18446744073709551616) (k4 : view < 18446744073709551616) : Fit ⟨op, cache, frm, key, mode, value, flags, expires, cas, delta, view, data⟩ :=
  ⟨h0, h1, h2, h3, h4, h5, h6, k0, k1, k2, k3, k4⟩

theorem Rd.news {Bd : Nat} {w : World} {ao : Option Addr} {c : Nat} {xs : List UInt8} (h : Rd Bd w (.slice ao xs.length c) xs) : ∀ ad, ao = some ad → ∀ j u, (bc xs)[j]? = some u → w.cell? (ad.add j) = some u := by
  intro ad ha j u hj
  obtain ⟨a', c', hv, hc⟩ := h
  obtain ⟨rfl, -, rfl⟩ := Value.slice.inj hv
  rcases hc with rfl | ⟨b, off, hb, _, hc⟩
  · simp [bc] at hj
  · rw [ha] at hb
    cases hb
    have hjl : j < xs.length := by
      have := (List.getElem?_eq_some_iff.1 hj).1
      rwa [bc_length] at this
    have e : (bc xs)[j]? = some (.int .u8 ((xs.getD j 0).toNat : Int)) := by simp [bc, List.getD, hjl]
    rw [e] at hj
    have hadd : (⟨b, off, none⟩ : Addr).add j = ⟨b, off + j, none⟩ := by unfold Addr.add; split <;> simp_all
    rw [hadd, hc j hjl]
    exact hj

theorem Rd.none_len {Bd : Nat} {w : World} {ao : Option Addr} {c : Nat} {xs : List UInt8} (h : Rd Bd w (.slice ao xs.length c) xs) (ha : ao = none) : xs.length = 0 := by
  obtain ⟨a', c', hv, hc⟩ := h
  obtain ⟨rfl, -, rfl⟩ := Value.slice.inj hv
  rcases hc with rfl | ⟨b, off, hb, _, _⟩
  · rfl
  · rw [ha] at hb; cases hb

set_option maxRecDepth 100000 in
set_option maxHeartbeats 1600000 in
theorem lawB_neg (op cache frm key mode : List UInt8) (av : Option Addr) (nv cv : Nat) (fl ex cs : Int) (ad : Option Addr) (nd cd : Nat) (cut : Int) (at' : Option Addr) (nt ct : Nat) (w : World)
    (hn : op.length + cache.length + frm.length + key.length + mode.length + nv + nd + nt ≤ 1048576) (hc : cut < 0) : Calls Tryf.prog 4 #[.string (B op), .string (B cache), .string (B frm), .string (B key), .string (B mode), .slice av nv cv, .int .u32 fl, .int .i64 ex, .int .u64 cs, .slice ad nd cd, .int .i64 cut, .slice at' nt ct] w fun e w' => e = .returned (.bool true) ∧ Below w.heap.size w w' := by
  have H := zz11_ok op cache frm key mode av nv cv fl ex cs ad nd cd cut at' nt ct w hn
  have s0 := B_size op
  have s1 := B_size cache
  have s2 := B_size frm
  have s3 := B_size key
  have s4 := B_size mode
  go_enter Tryf.func4, Tryf.ntmps4
  go_wp2_with fail
  refine H.mono ?_
  rintro e w1 ⟨rfl, hw⟩
  obtain rfl : w = w1 := hw.symm
  clear H
  go_wp2
  all_goals first | (go_ret; exact ⟨rfl, Below.refl _ _⟩) | (exfalso; omega)

set_option maxRecDepth 100000 in
set_option maxHeartbeats 4000000 in
theorem lawB_main (F : Interp) (op cache frm key mode value data tail : List UInt8) (flags expires cas : Nat) (ex : Int) (cut : Nat) (av ad at' : Option Addr) (cv cd ct : Nat) (w : World) (hF : F.answers w.tape)
    (hn : op.length + cache.length + frm.length + key.length + mode.length + value.length + data.length + tail.length ≤ 1048576) (k0 : flags < 4294967296) (k1 : expires < 18446744073709551616) (k2 : cas < 18446744073709551616) (hcut : cut ≤ 9223372036854775807)
    (hu : ∀ W, (convert 2 24 (.int .i64 ex)).run Tryf.prog W = .ok (.int .u64 expires) W)
    (hv : Rd w.heap.size w (.slice av value.length cv) value) (hd : Rd w.heap.size w (.slice ad data.length cd) data) (ht : Rd w.heap.size w (.slice at' tail.length ct) tail) :
    Calls Tryf.prog 4 #[.string (B op), .string (B cache), .string (B frm), .string (B key), .string (B mode), .slice av value.length cv, .int .u32 (flags : Int), .int .i64 ex, .int .u64 (cas : Int), .slice ad data.length cd, .int .i64 (cut : Int), .slice at' tail.length ct] w fun e w' => e = .returned (.bool true) ∧ Below w.heap.size w w' := by
  have H := zz11_ok op cache frm key mode av value.length cv flags ex cas ad data.length cd cut at' tail.length ct w hn
  have s0 := B_size op
  have s1 := B_size cache
  have s2 := B_size frm
  have s3 := B_size key
  have s4 := B_size mode
  have i0 : ¬ (1048576 : Int) < (op.length : Int) := by omega
  have i1 : ¬ (1048576 : Int) < (cache.length : Int) := by omega
  have i2 : ¬ (1048576 : Int) < (frm.length : Int) := by omega
  have i3 : ¬ (1048576 : Int) < (key.length : Int) := by omega
  have i4 : ¬ (1048576 : Int) < (mode.length : Int) := by omega
  have i5 : ¬ (1048576 : Int) < (value.length : Int) := by omega
  have i6 : ¬ (1048576 : Int) < (data.length : Int) := by omega
  have i7 : ¬ (1048576 : Int) < (tail.length : Int) := by omega
  have i8 : ¬ (1048576 : Int) < (op.length : Int) + cache.length + frm.length + key.length + mode.length + value.length + data.length + tail.length := by omega
  have i9 : ¬ (cut : Int) < 0 := by omega
  have HU : Hid (∀ W, (convert 2 24 (.int .i64 ex)).run Tryf.prog W = .ok (.int .u64 expires) W) := hu
  have HD : Hid (Rd w.heap.size w (.slice ad data.length cd) data) := hd
  have HT : Hid (Rd w.heap.size w (.slice at' tail.length ct) tail) := ht
  have HC := clone_any hv (by omega)
  clear hu hv hd ht
  go_enter Tryf.func4, Tryf.ntmps4
  go_wp2_with fail
  refine H.mono ?_
  rintro e w1 ⟨rfl, hw⟩
  obtain rfl : w = w1 := hw.symm
  clear H
  go_wp2_with fail
  refine HC.mono ?_
  clear HC
  rintro e w1 ⟨a1, rfl, r1, g1⟩
  have HC := clone_any ((HD.out.grown g1 (Nat.le_refl _) (by simp)).mono g1.size) (by omega)
  have HT1 : Hid (Rd w1.heap.size w1 (.slice at' tail.length ct) tail) := (HT.out.grown g1 (Nat.le_refl _) (by simp)).mono g1.size
  have HG1 : Hid (w.grownBy w1 none) := g1
  have HR1 : Hid (Rd w1.heap.size w1 (.slice a1 value.length value.length) value) := r1
  clear g1 r1 HD HT
  go_wp2_with fail
  refine HC.mono ?_
  clear HC
  rintro e w2 ⟨a2, rfl, r2, g2⟩
  have HC := clone_any ((HT1.out.grown g2 (Nat.le_refl _) (by simp)).mono g2.size) (by omega)
  have HG2 : Hid (w.grownBy w2 none) := HG1.out.trans g2
  have HV2 : Hid (Rd w2.heap.size w2 (.slice a1 value.length value.length) value) := (HR1.out.grown g2 (Nat.le_refl _) (by simp)).mono g2.size
  have HD2 : Hid (Rd w2.heap.size w2 (.slice a2 data.length data.length) data) := r2
  clear g2 r2 HR1 HT1 HG1
  go_wp2_with fail
  refine HC.mono ?_
  clear HC
  rintro e w3 ⟨a3, rfl, r3, g3⟩
  have HG3 : Hid (w.grownBy w3 none) := HG2.out.trans g3
  obtain ⟨m, hm⟩ : ∃ m, m = wire ⟨op, cache, frm, key, mode, value, flags, expires, cas, 0, 0, data⟩ := ⟨_, rfl⟩
  have hml : m.length = 20 + op.length + cache.length + frm.length + key.length + mode.length + 4 + value.length + 4 + 8 + 8 + 8 + 8 + 4 + data.length := by
    rw [hm]; simp only [wire, List.length_append, fld_length, Lib.beBytes_length]; omega
  have hfit : Fit ⟨op, cache, frm, key, mode, value, flags, expires, cas, 0, 0, data⟩ := fit_mk (by omega) (by omega) (by omega) (by omega) (by omega) (by omega) (by omega) k0 k1 k2 (by omega) (by omega)
  have HC := encode_at op cache frm key mode value data flags expires cas 0 0 ex 0 0 _ _ w3 (by omega) (by omega) (by omega) (by omega) (by omega) (by omega) (by omega) k0 k1 k2 (by omega) (by omega) rfl rfl HU.out
    ((HV2.out.grown g3 (Nat.le_refl _) (by simp)).mono g3.size) ((HD2.out.grown g3 (Nat.le_refl _) (by simp)).mono g3.size) m hm
  have HT3 : Hid (Rd w3.heap.size w3 (.slice a3 tail.length tail.length) tail) := r3
  have HFE : Hid (∀ t, fits (m ++ t) ↔ t = []) := fun t => by rw [hm]; exact fits_wire _ t hfit
  obtain ⟨k, hk⟩ : ∃ k, k = cut % m.length := ⟨_, rfl⟩
  have hkl : k < m.length := by rw [hk]; exact Nat.mod_lt _ (by omega)
  have HFC : Hid (¬ fits (m.take k)) := by
    have := not_fits_cut _ k hfit (by rw [← hm]; omega) (by rw [← hm]; exact hkl)
    rw [← hm] at this
    exact this
  have hmp : 0 < m.length := by omega
  have hmt : m.length + tail.length ≤ 2000000 := by omega
  have hrem : Int.tmod (cut : Int) (m.length : Int) = (k : Int) := by rw [hk]; rfl
  have Hml : Hid (m.length = 20 + op.length + cache.length + frm.length + key.length + mode.length + 4 + value.length + 4 + 8 + 8 + 8 + 8 + 4 + data.length) := hml
  clear g3 r3 HV2 HD2 HG2 hfit hm hml hk HU i0 i1 i2 i3 i4 i5 i6 i7 i8 hn k0 k1 k2
  go_wp2_with fail
  refine HC.mono ?_
  clear HC
  rintro e w4 ⟨rfl, hE, g4⟩
  have hkm : (m.take k).length = k := by rw [List.length_take]; omega
  have hlt4 := enc_lt hE
  have hr4 := hE.rd
  have hF4 : F.answers w4.tape := by rw [g4.tape, HG3.out.tape]; exact hF
  have HP := zz_any F (some ⟨w3.heap.size, 0, none⟩) k (m.take k) w4 hF4 (by rw [hkm]; exact (hr4.take (by omega)).mono hlt4) (by omega)
  rw [hkm] at HP
  have HG4 : Hid (w.grownBy w4 none) := HG3.out.trans g4
  have HT4 : Hid (Rd w3.heap.size w4 (.slice a3 tail.length tail.length) tail) := HT3.out.grown g4 (Nat.le_refl _) (by simp)
  have HM4 : Hid (Rd (w3.heap.size + 1) w4 (.slice (some ⟨w3.heap.size, 0, none⟩) m.length m.length) m) := hr4
  clear hE g4 hr4 HG3 HT3 hF
  generalize w3.heap.size = g at *
  have hml : (m.length : Int) ≠ 0 := by omega
  have hkI : (0 : Int) ≤ (k : Int) ∧ (k : Int) ≤ (m.length : Int) := by omega
  go_wp2_with fail
  refine HP.mono ?_
  clear HP
  rintro e w5 ⟨a6, n6, c6, a9, n9, c9, er, rfl, hEr, -, g5⟩
  rcases hEr with ⟨hf, -⟩ | ⟨-, ty, u, rfl⟩
  · exact absurd hf HFC.out
  have HG5 : Hid (w.grownBy w5 none) := HG4.out.trans g5
  have HG4' : Hid (w.grownBy w4 none) := HG4.out
  have HT5 : Hid (Rd g w5 (.slice a3 tail.length tail.length) tail) := HT4.out.grown g5 (by omega) (by simp)
  have HM5 : Hid (Rd (g + 1) w5 (.slice (some ⟨g, 0, none⟩) m.length m.length) m) := HM4.out.grown g5 hlt4 (by simp)
  have hlt5 : g < w5.heap.size := Nat.lt_of_lt_of_le hlt4 g5.size
  clear g5 HG4 HT4 HM4
  dsimp only [reqVals]
  generalize B (reqOf (m.take k)).op = t1
  generalize B (reqOf (m.take k)).cache = t2
  generalize B (reqOf (m.take k)).frm = t3
  generalize B (reqOf (m.take k)).key = t4
  generalize B (reqOf (m.take k)).mode = t5
  generalize ((reqOf (m.take k)).flags : Int) = f1
  generalize s64 (reqOf (m.take k)).expires = f2
  generalize ((reqOf (m.take k)).cas : Int) = f3
  generalize ((reqOf (m.take k)).delta : Int) = f4
  generalize ((reqOf (m.take k)).view : Int) = f5
  obtain ⟨i0, hi, hz0, hz1, hz2⟩ := info_parts Tryf.info5
  have hF5 : F.answers w5.tape := by rw [HG5.out.tape, ← HG4'.out.tape]; exact hF4
  obtain ⟨w6, hmk, E6, g6⟩ := run_make_own (P := Tryf.prog) (w5.alloc (.cells #[.string t1, .string t2, .string t3, .string t4, .string t5, .slice a6 n6 c6, .int .u32 f1, .int .i64 f2, .int .u64 f3, .int .u64 f4, .int .u64 f5, .slice a9 n9 c9] 29)) (w5.heap.size + 1) 22 5 i0 (.int .u8 0) 1 Tryf.underlying22 hi hz0 hz1 .i64 .i64 (m.length + tail.length) (by rw [hz2]; omega) (by unfold maxLen; omega) (by simp)
  have hs6 : (w5.alloc (.cells #[.string t1, .string t2, .string t3, .string t4, .string t5, .slice a6 n6 c6, .int .u32 f1, .int .i64 f2, .int .u64 f3, .int .u64 f4, .int .u64 f5, .slice a9 n9 c9] 29)).heap.size = w5.heap.size + 1 := by simp
  rw [hs6] at hmk E6
  rw [Int.natCast_add] at hmk
  have g56 := (World.grownBy_alloc w5 (.cells #[.string t1, .string t2, .string t3, .string t4, .string t5, .slice a6 n6 c6, .int .u32 f1, .int .i64 f2, .int .u64 f3, .int .u64 f4, .int .u64 f5, .slice a9 n9 c9] 29) none).trans g6
  have HG6 : Hid (w.grownBy w6 none) := HG5.out.trans g56
  have HT6 : Hid (Rd g w6 (.slice a3 tail.length tail.length) tail) := HT5.out.grown g56 (by omega) (by simp)
  have HM6 : Hid (Rd (g + 1) w6 (.slice (some ⟨g, 0, none⟩) m.length m.length) m) := HM5.out.grown g56 hlt5 (by simp)
  have hF6 : F.answers w6.tape := by rw [g56.tape]; exact hF5
  have hlt6 : g < w6.heap.size := Nat.lt_of_lt_of_le hlt5 g56.size
  have hmt' : (m.length : Int) + (tail.length : Int) ≤ 2000000 := by omega
  have HG5s : Hid (w.heap.size ≤ w5.heap.size) := HG5.out.size
  clear g6 g56 hs6 HG5 HT5 HM5 HFC
  go_wp2_with (at_builtin; refine wpList_append_fits_any w6 rfl _ _ 22 rfl (w5.heap.size + 1) 5 i0 1 Tryf.underlying22 hi hz1 (w5.heap.size + 1) 0 (m.length + tail.length) [] rfl E6 (some ⟨g, 0, none⟩) m.length m.length (bc m) rfl (by rw [bc_length, Nat.mul_one]) (by intro h; cases h) HM6.out.news (bc_one m) (by omega) ?_)
  intro w7 hown7 g7
  have hown7' : w7.ownsRow (w5.heap.size + 1) 5 1 (.slice (some ⟨w5.heap.size + 1, 0, none⟩) m.length (m.length + tail.length)) m.length (bc m) := by simpa using hown7
  have HG7 : Hid (w.grownBy w7 none) := HG6.out.andThen g7 (fun j hj => by cases hj; left; have := HG5s.out; omega)
  have HT7 : Hid (Rd g w7 (.slice a3 tail.length tail.length) tail) := HT6.out.grown g7 (by omega) (fun j hj => by cases hj; omega)
  have hF7 : F.answers w7.tape := by rw [g7.tape]; exact hF6
  clear hown7 g7 HG6 HT6 HM6 E6 hmk hF6
  go_wp2_with (at_builtin; refine wpList_append_fits_any w7 rfl _ _ 22 rfl (w5.heap.size + 1) 5 i0 1 Tryf.underlying22 hi hz1 (w5.heap.size + 1) m.length (m.length + tail.length) (bc m) rfl hown7' a3 tail.length tail.length (bc tail) rfl (by rw [bc_length, Nat.mul_one]) (fun h => by have := HT7.out.none_len h; omega) HT7.out.news (bc_one tail) (Nat.le_refl _) ?_)
  intro w8 hown8 g8
  have hE8 : Enc w8 (w5.heap.size + 1) (m.length + tail.length) (m ++ tail) := by
    unfold Enc
    rw [List.length_append, bc_append]
    exact hown8
  have HG8 : Hid (w.grownBy w8 none) := HG7.out.andThen g8 (fun j hj => by cases hj; left; have := HG5s.out; omega)
  have hF8 : F.answers w8.tape := by rw [g8.tape]; exact hF7
  have hr8 := hE8.rd
  have HP := zz_any F (some ⟨w5.heap.size + 1, 0, none⟩) (m.length + tail.length) (m ++ tail) w8 hF8 (hr8.mono (enc_lt hE8)) (by rw [List.length_append]; exact Nat.le_refl _)
  rw [List.length_append] at HP
  clear hown7' hown8 g8 HG7 HT7 hE8 hr8 hF7 hF8
  go_wp2_with fail
  refine HP.mono ?_
  clear HP
  rintro e w9 ⟨b6, o6, q6, b9, o9, q9, er, rfl, hEr, -, g9⟩
  have HG9 : Hid (w.grownBy w9 none) := HG8.out.trans g9
  have hfe := HFE.out tail
  dsimp only [reqVals]
  clear g9 HG8
  by_cases htl : tail = []
  · subst htl
    rcases hEr with ⟨hf, rfl⟩ | ⟨hf, _⟩
    · clear hf hfe HFE
      go_wp2
      go_ret
      exact ⟨rfl, below_of (HG9.out.trans (World.grownBy_alloc _ _ _))⟩
    · exact absurd (hfe.2 rfl) hf
  · have htp : 0 < tail.length := List.length_pos_iff.2 htl
    have htz : ((tail.length : Int) == 0) = false := by simp; exact htl
    rcases hEr with ⟨hf, _⟩ | ⟨hf, ty', u', rfl⟩
    · exact absurd (hfe.1 hf) htl
    · clear hf hfe HFE htl
      go_wp2
      go_ret
      exact ⟨rfl, below_of (HG9.out.trans (World.grownBy_alloc _ _ _))⟩

end Go.Proofs.Qxb6002351aFmt
