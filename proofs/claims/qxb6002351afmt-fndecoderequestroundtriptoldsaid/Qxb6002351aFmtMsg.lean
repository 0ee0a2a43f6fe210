/-
  Seat b6002351aF: encodeMessageGridG1.
-/
import Derived.Test.Qxb6002351aFmtEnc
namespace Go.Proofs.Qxb6002351aFmt
open Go.RowKit

/-- The fields of a request. -/
structure Req where
  op : List UInt8
  cache : List UInt8
  frm : List UInt8
  key : List UInt8
  mode : List UInt8
  value : List UInt8
  flags : Nat
  expires : Nat
  cas : Nat
  delta : Nat
  view : Nat
  data : List UInt8

/-- A field of bytes on the wire. -/
def fld (xs : List UInt8) : List UInt8 := Lib.beBytes 4 xs.length ++ xs
theorem fld_length (xs : List UInt8) : (fld xs).length = 4 + xs.length := by rw [fld, List.length_append, Lib.beBytes_length]

/-- The wire form. -/
def wire (r : Req) : List UInt8 :=
  fld r.op ++ (fld r.cache ++ (fld r.frm ++ (fld r.key ++ (fld r.mode ++ (fld r.value ++ (Lib.beBytes 4 r.flags ++ (Lib.beBytes 8 r.expires ++ (Lib.beBytes 8 r.cas ++ (Lib.beBytes 8 r.delta ++ (Lib.beBytes 8 r.view ++ fld r.data))))))))))

/-- What a put leaves. -/
def Put (w : World) (g cap n : Nat) (l add : List UInt8) (e : Ending) (w' : World) : Prop :=
  ∃ m l', e = .returned (.slice (some ⟨g, 0, none⟩) m cap) ∧ Enc w' g cap l' ∧ Hid (w.grownBy w' (some g)) ∧ Hid (l' = l ++ add) ∧ Hid (l'.length = m) ∧ Hid (m = n + add.length)

theorem put_of {w : World} {g cap n : Nat} {l add : List UInt8} {e : Ending} {w' : World} (k : Nat) (hk : add.length = k) (hn : l.length = n) (h : e = .returned (.slice (some ⟨g, 0, none⟩) (n + k) cap) ∧ Enc w' g cap (l ++ add) ∧ w.grownBy w' (some g)) : Put w g cap n l add e w' :=
  ⟨n + k, l ++ add, h.1, h.2.1, h.2.2, rfl, by unfold Hid; rw [List.length_append, hk, hn], by unfold Hid; rw [hk]⟩

theorem pS (g cap n : Nat) (l xs : List UInt8) (w : World) (hn : l.length = n) (hx : xs.length ≤ 2000000) (h : Enc w g cap l) (hroom : n + (4 + xs.length) ≤ cap) :
    Calls Tryf.prog 13 #[.slice (some ⟨g, 0, none⟩) n cap, .string (B xs)] w (Put w g cap n l (fld xs)) :=
  (putStr_any g cap n l xs w hn hx h hroom).mono fun _ _ k => put_of _ (fld_length xs) hn k

theorem pB (g cap n : Nat) (l xs : List UInt8) (v : Value) (w : World) (hn : l.length = n) (hx : xs.length ≤ 2000000) (hgl : g < w.heap.size) (hv : Rd g w v xs) (h : Enc w g cap l) (hroom : n + (4 + xs.length) ≤ cap) :
    Calls Tryf.prog 14 #[.slice (some ⟨g, 0, none⟩) n cap, v] w (Put w g cap n l (fld xs)) :=
  (putBytes_any g cap n l xs v w hn hx hgl hv h hroom).mono fun _ _ k => put_of _ (fld_length xs) hn k

theorem p4 (g cap n : Nat) (l : List UInt8) (v : Nat) (w : World) (hn : l.length = n) (hv : v < 4294967296) (h : Enc w g cap l) (hroom : n + 4 ≤ cap) :
    Calls Tryf.prog 15 #[.slice (some ⟨g, 0, none⟩) n cap, .int .u32 v] w (Put w g cap n l (Lib.beBytes 4 v)) :=
  (put32_at g cap n l v _ w rfl hn hv h hroom).mono fun _ _ k => put_of _ (Lib.beBytes_length 4 v) hn k

theorem p8 (g cap n : Nat) (l : List UInt8) (v : Nat) (w : World) (hn : l.length = n) (hv : v < 18446744073709551616) (h : Enc w g cap l) (hroom : n + 8 ≤ cap) :
    Calls Tryf.prog 16 #[.slice (some ⟨g, 0, none⟩) n cap, .int .u64 v] w (Put w g cap n l (Lib.beBytes 8 v)) :=
  (put64_any g cap n l v w hn hv h hroom).mono fun _ _ k => put_of _ (Lib.beBytes_length 8 v) hn k

/-- The bounds that a request keeps. -/
def Fit (r : Req) : Prop :=
  r.op.length ≤ 2000000 ∧ r.cache.length ≤ 2000000 ∧ r.frm.length ≤ 2000000 ∧ r.key.length ≤ 2000000 ∧ r.mode.length ≤ 2000000 ∧ r.value.length ≤ 2000000 ∧ r.data.length ≤ 2000000 ∧
  r.flags < 4294967296 ∧ r.expires < 18446744073709551616 ∧ r.cas < 18446744073709551616 ∧ r.delta < 18446744073709551616 ∧ r.view < 18446744073709551616

theorem enc_lt {w : World} {g cap : Nat} {l : List UInt8} (h : Enc w g cap l) : g < w.heap.size := by
  rcases h.2 with ⟨h, _⟩ | ⟨g', cap', cur, hv, _, hg, _⟩
  · cases h
  · cases hv
    by_cases hc : g < w.heap.size
    · exact hc
    · rw [Array.getElem?_eq_none (by omega)] at hg
      cases hg

theorem grown_none {g : Nat} {w w' : World} (h : w.grownBy w' (some g)) (hg : w.heap.size ≤ g) : w.grownBy w' none :=
  ⟨h.os, h.tape, h.output, h.size, fun i hi _ => h.block i hi (by intro e; cases e; omega)⟩

theorem Rd.via {g : Nat} {w w' : World} {v : Value} {xs : List UInt8} (h : Rd g w v xs) (hg : w.grownBy w' (some g)) (hb : g ≤ w.heap.size) : Rd g w' v xs :=
  h.grown hg hb (fun j hj => by cases hj; exact Nat.le_refl _)

set_option maxHeartbeats 2000000 in
theorem encode_any (op cache frm key mode value data : List UInt8) (flags expires cas delta view : Nat) (ex : Int) (vv vd : Value) (w : World)
    (h0 : op.length ≤ 2000000) (h1 : cache.length ≤ 2000000) (h2 : frm.length ≤ 2000000) (h3 : key.length ≤ 2000000) (h4 : mode.length ≤ 2000000) (h5 : value.length ≤ 2000000) (h6 : data.length ≤ 2000000)
    (k0 : flags < 4294967296) (k1 : expires < 18446744073709551616) (k2 : cas < 18446744073709551616) (k3 : delta < 18446744073709551616) (k4 : view < 18446744073709551616)
    (hex : ∀ W, (convert 2 24 (.int .i64 ex)).run Tryf.prog W = .ok (.int .u64 expires) W)
    (hvv : Rd w.heap.size w vv value) (hvd : Rd w.heap.size w vd data) :
    Calls Tryf.prog 8 #[.string (B op), .string (B cache), .string (B frm), .string (B key), .string (B mode), vv, .int .u32 flags, .int .i64 ex, .int .u64 cas, .int .u64 delta, .int .u64 view, vd] w fun e w' =>
      ∃ n, e = .returned (.slice (some ⟨w.heap.size, 0, none⟩) n n) ∧ n = (wire ⟨op, cache, frm, key, mode, value, flags, expires, cas, delta, view, data⟩).length ∧
        Enc w' w.heap.size n (wire ⟨op, cache, frm, key, mode, value, flags, expires, cas, delta, view, data⟩) ∧ w.grownBy w' none := by
  obtain ⟨i0, hi, hz0, hz1, hz2⟩ := info_parts Tryf.info5
  have s0 := B_size op
  have s1 := B_size cache
  have s2 := B_size frm
  have s3 := B_size key
  have s4 := B_size mode
  have RV : Hid (Rd w.heap.size w vv value) := hvv
  have RD : Hid (Rd w.heap.size w vd data) := hvd
  obtain ⟨av, cv, rfl, -⟩ := hvv
  obtain ⟨ad, cd, rfl, -⟩ := hvd
  obtain ⟨N, hN⟩ : ∃ N, N = 20 + op.length + cache.length + frm.length + key.length + mode.length + 4 + value.length + 4 + 8 + 8 + 8 + 8 + 4 + data.length := ⟨_, rfl⟩
  have HN : Hid (N = 20 + op.length + cache.length + frm.length + key.length + mode.length + 4 + value.length + 4 + 8 + 8 + 8 + 8 + 4 + data.length) := hN
  have hNI : (N : Int) = 20 + (op.length : Int) + cache.length + frm.length + key.length + mode.length + 4 + value.length + 4 + 8 + 8 + 8 + 8 + 4 + data.length := by omega
  obtain ⟨w0, hmk, E0, G0⟩ := run_make_own (P := Tryf.prog) w w.heap.size 22 5 i0 (.int .u8 0) 1 Tryf.underlying22 hi hz0 hz1 .i64 .i64 N (by rw [hz2]; omega) (by unfold maxLen; omega) (Nat.le_refl _)
  rw [hNI] at hmk
  have hlt : w.heap.size < w0.heap.size := enc_lt (cap := N) (l := []) E0
  clear hN hNI
  have HG0 : Hid (w.grownBy w0 none) := G0
  clear G0
  have HB0 : Hid (w.grownBy w0 (some w.heap.size)) := HG0.out.but _
  have HR0 : Hid ((20 + op.length + cache.length + frm.length + key.length + mode.length + 4 + value.length + 4 + 8 + 8 + 8 + 8 + 4 + data.length) ≤ N) := Nat.le_of_eq HN.out.symm
  have E0' : Enc w0 w.heap.size N [] := E0
  clear E0
  obtain ⟨g, hg⟩ : ∃ g, g = w.heap.size := ⟨_, rfl⟩
  rw [← hg] at E0' hlt HB0 hmk RV RD
  simp only [← hg]
  have hgw : g ≤ w.heap.size := Nat.le_of_eq hg
  have Hg : Hid (g = w.heap.size) := hg
  clear hg
  go_enter Tryf.func8, Tryf.ntmps8
  go_wp2_with fail
  refine (pS g N 0 [] op w0 rfl h0 E0' (by  have := HN.out; omega)).mono ?_
  rintro e w1 ⟨m1, l1, rfl, E1, G1, HL1, HS1, HM1⟩
  have HB1 : Hid (w.grownBy w1 (some g)) := HB0.out.trans G1.out
  rw [fld_length] at HM1
  go_wp2_with fail
  refine (pS g N m1 l1 cache w1 HS1.out h1 E1 (by have := HM1.out; have := HN.out; omega)).mono ?_
  rintro e w2 ⟨m2, l2, rfl, E2, G2, HL2, HS2, HM2⟩
  have HB2 : Hid (w.grownBy w2 (some g)) := HB1.out.trans G2.out
  rw [fld_length] at HM2
  clear G2 E1
  go_wp2_with fail
  refine (pS g N m2 l2 frm w2 HS2.out h2 E2 (by have := HM1.out; have := HM2.out; have := HN.out; omega)).mono ?_
  rintro e w3 ⟨m3, l3, rfl, E3, G3, HL3, HS3, HM3⟩
  have HB3 : Hid (w.grownBy w3 (some g)) := HB2.out.trans G3.out
  rw [fld_length] at HM3
  clear G3 E2
  go_wp2_with fail
  refine (pS g N m3 l3 key w3 HS3.out h3 E3 (by have := HM1.out; have := HM2.out; have := HM3.out; have := HN.out; omega)).mono ?_
  rintro e w4 ⟨m4, l4, rfl, E4, G4, HL4, HS4, HM4⟩
  have HB4 : Hid (w.grownBy w4 (some g)) := HB3.out.trans G4.out
  rw [fld_length] at HM4
  clear G4 E3
  go_wp2_with fail
  refine (pS g N m4 l4 mode w4 HS4.out h4 E4 (by have := HM1.out; have := HM2.out; have := HM3.out; have := HM4.out; have := HN.out; omega)).mono ?_
  rintro e w5 ⟨m5, l5, rfl, E5, G5, HL5, HS5, HM5⟩
  have HB5 : Hid (w.grownBy w5 (some g)) := HB4.out.trans G5.out
  rw [fld_length] at HM5
  clear G5 E4
  go_wp2_with fail
  refine (pB g N m5 l5 value _ w5 HS5.out h5 (enc_lt E5) (RV.out.via HB5.out hgw) E5 (by have := HM1.out; have := HM2.out; have := HM3.out; have := HM4.out; have := HM5.out; have := HN.out; omega)).mono ?_
  rintro e w6 ⟨m6, l6, rfl, E6, G6, HL6, HS6, HM6⟩
  have HB6 : Hid (w.grownBy w6 (some g)) := HB5.out.trans G6.out
  rw [fld_length] at HM6
  clear G6 E5
  go_wp2_with fail
  refine (p4 g N m6 l6 flags w6 HS6.out k0 E6 (by have := HM1.out; have := HM2.out; have := HM3.out; have := HM4.out; have := HM5.out; have := HM6.out; have := HN.out; omega)).mono ?_
  rintro e w7 ⟨m7, l7, rfl, E7, G7, HL7, HS7, HM7⟩
  have HB7 : Hid (w.grownBy w7 (some g)) := HB6.out.trans G7.out
  rw [Lib.beBytes_length] at HM7
  clear G7 E6
  go_wp2_with fail
  refine (p8 g N m7 l7 expires w7 HS7.out k1 E7 (by have := HM1.out; have := HM2.out; have := HM3.out; have := HM4.out; have := HM5.out; have := HM6.out; have := HM7.out; have := HN.out; omega)).mono ?_
  rintro e w8 ⟨m8, l8, rfl, E8, G8, HL8, HS8, HM8⟩
  have HB8 : Hid (w.grownBy w8 (some g)) := HB7.out.trans G8.out
  rw [Lib.beBytes_length] at HM8
  clear G8 E7
  go_wp2_with fail
  refine (p8 g N m8 l8 cas w8 HS8.out k2 E8 (by have := HM1.out; have := HM2.out; have := HM3.out; have := HM4.out; have := HM5.out; have := HM6.out; have := HM7.out; have := HM8.out; have := HN.out; omega)).mono ?_
  rintro e w9 ⟨m9, l9, rfl, E9, G9, HL9, HS9, HM9⟩
  have HB9 : Hid (w.grownBy w9 (some g)) := HB8.out.trans G9.out
  rw [Lib.beBytes_length] at HM9
  clear G9 E8
  go_wp2_with fail
  refine (p8 g N m9 l9 delta w9 HS9.out k3 E9 (by have := HM1.out; have := HM2.out; have := HM3.out; have := HM4.out; have := HM5.out; have := HM6.out; have := HM7.out; have := HM8.out; have := HM9.out; have := HN.out; omega)).mono ?_
  rintro e w10 ⟨m10, l10, rfl, E10, G10, HL10, HS10, HM10⟩
  have HB10 : Hid (w.grownBy w10 (some g)) := HB9.out.trans G10.out
  rw [Lib.beBytes_length] at HM10
  clear G10 E9
  go_wp2_with fail
  refine (p8 g N m10 l10 view w10 HS10.out k4 E10 (by have := HM1.out; have := HM2.out; have := HM3.out; have := HM4.out; have := HM5.out; have := HM6.out; have := HM7.out; have := HM8.out; have := HM9.out; have := HM10.out; have := HN.out; omega)).mono ?_
  rintro e w11 ⟨m11, l11, rfl, E11, G11, HL11, HS11, HM11⟩
  have HB11 : Hid (w.grownBy w11 (some g)) := HB10.out.trans G11.out
  rw [Lib.beBytes_length] at HM11
  clear G11 E10
  go_wp2_with fail
  refine (pB g N m11 l11 data _ w11 HS11.out h6 (enc_lt E11) (RD.out.via HB11.out hgw) E11 (by have := HM1.out; have := HM2.out; have := HM3.out; have := HM4.out; have := HM5.out; have := HM6.out; have := HM7.out; have := HM8.out; have := HM9.out; have := HM10.out; have := HM11.out; have := HN.out; omega)).mono ?_
  rintro e w12 ⟨m12, l12, rfl, E12, G12, HL12, HS12, HM12⟩
  have HB12 : Hid (w.grownBy w12 (some g)) := HB11.out.trans G12.out
  rw [fld_length] at HM12
  clear G12 E11
  go_wp2
  go_ret
  have hl : l12 = wire ⟨op, cache, frm, key, mode, value, flags, expires, cas, delta, view, data⟩ := by
    rw [HL12.out, HL11.out, HL10.out, HL9.out, HL8.out, HL7.out, HL6.out, HL5.out, HL4.out, HL3.out, HL2.out, HL1.out]
    simp only [wire, List.append_assoc, List.nil_append]
  have hm : m12 = N := by
    have := HM1.out; have := HM2.out; have := HM3.out; have := HM4.out; have := HM5.out; have := HM6.out; have := HM7.out; have := HM8.out; have := HM9.out; have := HM10.out; have := HM11.out; have := HM12.out; have := HN.out; omega
  have hs : l12.length = m12 := HS12.out
  subst hm
  rw [← hl]
  exact ⟨m12, rfl, hs.symm, E12, grown_none HB12.out (Nat.le_of_eq Hg.out.symm)⟩

end Go.Proofs.Qxb6002351aFmt
