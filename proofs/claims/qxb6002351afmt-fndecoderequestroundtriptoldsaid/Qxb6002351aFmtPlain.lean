/-
  Seat b6002351aF: the plain law: reading and writing the wire form.
-/
import Derived.Test.Qxb6002351aFmtDcd
namespace Go.Proofs.Qxb6002351aFmt

theorem le_le (l : List UInt8) : Lib.leBytes l.length (Lib.leNat l) = l := by
  induction l with
  | nil => rfl
  | cons b r ih =>
    have hb := b.toNat_lt
    have e1 : (b.toNat + 256 * Lib.leNat r) % 256 = b.toNat := by omega
    have e2 : (b.toNat + 256 * Lib.leNat r) / 256 = Lib.leNat r := by omega
    simp only [List.length_cons, Lib.leBytes, Lib.leNat, e1, e2, ih]
    congr 1
    apply UInt8.toNat_inj.1
    simp

theorem be_be (l : List UInt8) : Lib.beBytes l.length (Lib.beNat l) = l := by
  rw [Lib.beNat_eq, Lib.beBytes, ← List.length_reverse, le_le, List.reverse_reverse]

/-- Reading what was written. -/
theorem nx_put (k v : Nat) (t : List UInt8) : nx k (Lib.beBytes k v ++ t, true) = (t, true) := by
  have hl := Lib.beBytes_length k v
  simp [nx, tl, tok, hl]

theorem num_put (k v : Nat) (t : List UInt8) (hv : v < 256 ^ k) : num k (Lib.beBytes k v ++ t, true) = v := by
  have hl := Lib.beBytes_length k v
  have : (Lib.beBytes k v ++ t).take k = Lib.beBytes k v := by
    rw [List.take_append_of_le_length (by omega), List.take_of_length_le (by omega)]
  simp only [num, rd, tk]
  rw [if_pos ⟨trivial, by rw [List.length_append]; omega⟩, this, Lib.beNat_beBytes k v hv]

theorem rd_put (x t : List UInt8) : rd x.length (x ++ t, true) = x := by
  simp [rd, tk]

theorem nx_raw (x t : List UInt8) : nx x.length (x ++ t, true) = (t, true) := by
  simp [nx, tl, tok]

theorem fld_read (x t : List UInt8) (hx : x.length < 4294967296) : by_ (fld x ++ t, true) = x ∧ byN (fld x ++ t, true) = (t, true) := by
  unfold by_ byN fld
  rw [List.append_assoc, num_put 4 x.length _ (by omega), nx_put]
  exact ⟨rd_put x t, nx_raw x t⟩

theorem req_eq (l : List UInt8) (r : Req) (q0 : by_ (d0 l) = r.op) (q1 : by_ (d1 l) = r.cache) (q2 : by_ (d2 l) = r.frm) (q3 : by_ (d3 l) = r.key) (q4 : by_ (d4 l) = r.mode) (q5 : by_ (d5 l) = r.value)
    (q6 : num 4 (byN (d5 l)) = r.flags) (q7 : num 8 (nx 4 (byN (d5 l))) = r.expires) (q8 : num 8 (nx 8 (nx 4 (byN (d5 l)))) = r.cas) (q9 : num 8 (d6 l) = r.delta) (q10 : num 8 (d7 l) = r.view) (q11 : by_ (d8 l) = r.data) : reqOf l = r := by
  have e : reqOf l = ⟨by_ (d0 l), by_ (d1 l), by_ (d2 l), by_ (d3 l), by_ (d4 l), by_ (d5 l), num 4 (byN (d5 l)), num 8 (nx 4 (byN (d5 l))), num 8 (nx 8 (nx 4 (byN (d5 l)))), num 8 (d6 l), num 8 (d7 l), by_ (d8 l)⟩ := rfl
  rw [e, q0, q1, q2, q3, q4, q5, q6, q7, q8, q9, q10, q11]

theorem read_wire (r : Req) (t : List UInt8) (h : Fit r) : d9 (wire r ++ t) = (t, true) ∧ reqOf (wire r ++ t) = r := by
  obtain ⟨op, cache, frm, key, mode, value, flags, expires, cas, delta, view, data⟩ := r
  obtain ⟨h0, h1, h2, h3, h4, h5, h6, k0, k1, k2, k3, k4⟩ := h
  simp only at h0 h1 h2 h3 h4 h5 h6 k0 k1 k2 k3 k4
  simp only [wire, List.append_assoc]
  generalize eA : fld data ++ t = A
  generalize eB : Lib.beBytes 8 view ++ A = Bq
  generalize eC : Lib.beBytes 8 delta ++ Bq = Cq
  generalize eD : Lib.beBytes 8 cas ++ Cq = Dq
  generalize eE : Lib.beBytes 8 expires ++ Dq = Eq'
  generalize eF : Lib.beBytes 4 flags ++ Eq' = Fq
  generalize eG : fld value ++ Fq = G
  generalize eH : fld mode ++ G = Hq
  generalize eI : fld key ++ Hq = Iq
  generalize eJ : fld frm ++ Iq = J
  generalize eK : fld cache ++ J = Kq
  have f0 := fld_read op Kq (by omega)
  have f1 := fld_read cache J (by omega)
  have f2 := fld_read frm Iq (by omega)
  have f3 := fld_read key Hq (by omega)
  have f4 := fld_read mode G (by omega)
  have f5 := fld_read value Fq (by omega)
  have f9 := fld_read data t (by omega)
  have n6 := nx_put 4 flags Eq'
  have n7 := nx_put 8 expires Dq
  have n8 := nx_put 8 cas Cq
  have n9 := nx_put 8 delta Bq
  have n10 := nx_put 8 view A
  have m6 := num_put 4 flags Eq' (by omega)
  have m7 := num_put 8 expires Dq (by omega)
  have m8 := num_put 8 cas Cq (by omega)
  have m9 := num_put 8 delta Bq (by omega)
  have m10 := num_put 8 view A (by omega)
  rw [eK] at f1; rw [eJ] at f2; rw [eI] at f3; rw [eH] at f4; rw [eG] at f5; rw [eA] at f9
  rw [eF] at n6 m6; rw [eE] at n7 m7; rw [eD] at n8 m8; rw [eC] at n9 m9; rw [eB] at n10 m10
  have s1 : d1 (fld op ++ Kq) = (Kq, true) := by unfold d1 d0; exact f0.2
  have s2 : d2 (fld op ++ Kq) = (J, true) := by unfold d2; rw [s1, f1.2]
  have s3 : d3 (fld op ++ Kq) = (Iq, true) := by unfold d3; rw [s2, f2.2]
  have s4 : d4 (fld op ++ Kq) = (Hq, true) := by unfold d4; rw [s3, f3.2]
  have s5 : d5 (fld op ++ Kq) = (G, true) := by unfold d5; rw [s4, f4.2]
  have s6 : d6 (fld op ++ Kq) = (Cq, true) := by unfold d6 enN; rw [s5, f5.2, n6, n7, n8]
  have s7 : d7 (fld op ++ Kq) = (Bq, true) := by unfold d7; rw [s6, n9]
  have s8 : d8 (fld op ++ Kq) = (A, true) := by unfold d8; rw [s7, n10]
  have s9 : d9 (fld op ++ Kq) = (t, true) := by unfold d9; rw [s8, f9.2]
  refine ⟨s9, ?_⟩
  have q0 : by_ (d0 (fld op ++ Kq)) = op := by unfold d0; exact f0.1
  have q1 : by_ (d1 (fld op ++ Kq)) = cache := by rw [s1]; exact f1.1
  have q2 : by_ (d2 (fld op ++ Kq)) = frm := by rw [s2]; exact f2.1
  have q3 : by_ (d3 (fld op ++ Kq)) = key := by rw [s3]; exact f3.1
  have q4 : by_ (d4 (fld op ++ Kq)) = mode := by rw [s4]; exact f4.1
  have q5 : by_ (d5 (fld op ++ Kq)) = value := by rw [s5]; exact f5.1
  have q6 : num 4 (byN (d5 (fld op ++ Kq))) = flags := by rw [s5, f5.2]; exact m6
  have q7 : num 8 (nx 4 (byN (d5 (fld op ++ Kq)))) = expires := by rw [s5, f5.2, n6]; exact m7
  have q8 : num 8 (nx 8 (nx 4 (byN (d5 (fld op ++ Kq))))) = cas := by rw [s5, f5.2, n6, n7]; exact m8
  have q9 : num 8 (d6 (fld op ++ Kq)) = delta := by rw [s6]; exact m9
  have q10 : num 8 (d7 (fld op ++ Kq)) = view := by rw [s7]; exact m10
  have q11 : by_ (d8 (fld op ++ Kq)) = data := by rw [s8]; exact f9.1
  exact req_eq _ _ q0 q1 q2 q3 q4 q5 q6 q7 q8 q9 q10 q11
/-- A read that went through. -/
theorem nx_ok {k : Nat} {s : S} (h : (nx k s).2 = true) : s.2 = true ∧ s.1 = rd k s ++ (nx k s).1 ∧ (rd k s).length = k := by
  obtain ⟨l, ok⟩ := s
  simp only [nx, tok, Bool.and_eq_true, decide_eq_true_eq] at h
  obtain ⟨rfl, hk⟩ := h
  have hk' : k ≤ l.length := hk
  simp [nx, rd, tk, tl, hk']

theorem num_ok {k : Nat} {s : S} (h : (nx k s).2 = true) : s.2 = true ∧ s.1 = Lib.beBytes k (num k s) ++ (nx k s).1 := by
  obtain ⟨h1, h2, h3⟩ := nx_ok h
  refine ⟨h1, ?_⟩
  have : Lib.beBytes k (num k s) = rd k s := by
    have := be_be (rd k s)
    rw [h3] at this
    exact this
  rw [this]
  exact h2

theorem by_ok {s : S} (h : (byN s).2 = true) : s.2 = true ∧ s.1 = fld (by_ s) ++ (byN s).1 ∧ (by_ s).length < 4294967296 := by
  obtain ⟨h1, h2, h3⟩ := nx_ok h
  obtain ⟨k1, k2⟩ := num_ok h1
  refine ⟨k1, ?_, ?_⟩
  · rw [k2, h2]
    unfold fld by_ byN
    rw [h3, List.append_assoc]
  · have := be4_lt s.1 s.2
    unfold by_
    rw [h3]
    exact this

theorem reqOf_eq (l : List UInt8) : reqOf l = ⟨by_ (d0 l), by_ (d1 l), by_ (d2 l), by_ (d3 l), by_ (d4 l), by_ (d5 l), num 4 (byN (d5 l)), num 8 (nx 4 (byN (d5 l))), num 8 (nx 8 (nx 4 (byN (d5 l)))), num 8 (d6 l), num 8 (d7 l), by_ (d8 l)⟩ := rfl
theorem wire_mk (o c f k m v : List UInt8) (fl ex ca de vi : Nat) (da : List UInt8) : wire ⟨o, c, f, k, m, v, fl, ex, ca, de, vi, da⟩ = fld o ++ (fld c ++ (fld f ++ (fld k ++ (fld m ++ (fld v ++ (Lib.beBytes 4 fl ++ (Lib.beBytes 8 ex ++ (Lib.beBytes 8 ca ++ (Lib.beBytes 8 de ++ (Lib.beBytes 8 vi ++ fld da)))))))))) := rfl

theorem wire_read (l : List UInt8) (h : fits l) : wire (reqOf l) = l := by
  have e9 : d9 l = ([], true) := h
  have t9 : (d9 l).2 = true := by rw [e9]
  have z9 : (d9 l).1 = [] := by rw [e9]
  obtain ⟨t8, z8, _⟩ := by_ok (s := d8 l) t9
  obtain ⟨t7, z7⟩ := num_ok (k := 8) (s := d7 l) t8
  obtain ⟨t6, z6⟩ := num_ok (k := 8) (s := d6 l) t7
  obtain ⟨ta, za⟩ := num_ok (k := 8) (s := nx 8 (nx 4 (byN (d5 l)))) t6
  obtain ⟨tb, zb⟩ := num_ok (k := 8) (s := nx 4 (byN (d5 l))) ta
  obtain ⟨tc, zc⟩ := num_ok (k := 4) (s := byN (d5 l)) tb
  obtain ⟨t5, z5, _⟩ := by_ok (s := d5 l) tc
  obtain ⟨t4, z4, _⟩ := by_ok (s := d4 l) t5
  obtain ⟨t3, z3, _⟩ := by_ok (s := d3 l) t4
  obtain ⟨t2, z2, _⟩ := by_ok (s := d2 l) t3
  obtain ⟨t1, z1, _⟩ := by_ok (s := d1 l) t2
  obtain ⟨t0, z0, _⟩ := by_ok (s := d0 l) t1
  have e : l = fld (by_ (d0 l)) ++ (byN (d0 l)).1 := z0
  refine Eq.trans ?_ e.symm
  have w1 : (byN (d0 l)).1 = (d1 l).1 := rfl
  have w2 : (byN (d1 l)).1 = (d2 l).1 := rfl
  have w3 : (byN (d2 l)).1 = (d3 l).1 := rfl
  have w4 : (byN (d3 l)).1 = (d4 l).1 := rfl
  have w5 : (byN (d4 l)).1 = (d5 l).1 := rfl
  have w6 : (nx 8 (nx 8 (nx 4 (byN (d5 l))))).1 = (d6 l).1 := rfl
  have w7 : (nx 8 (d6 l)).1 = (d7 l).1 := rfl
  have w8 : (nx 8 (d7 l)).1 = (d8 l).1 := rfl
  have w9 : (byN (d8 l)).1 = (d9 l).1 := rfl
  rw [reqOf_eq, wire_mk, w1, z1, w2, z2, w3, z3, w4, z4, w5, z5, zc, zb, za, w6, z6, w7, z7, w8, z8, w9, z9, List.append_nil]

/-- What an accepted message reads as keeps the bounds. -/
theorem fits_bounds (l : List UInt8) (h : fits l) (hl : l.length ≤ 2000000) : Fit (reqOf l) := by
  have hw := congrArg List.length (wire_read l h)
  have e := fld_length
  simp only [wire, List.length_append, e, Lib.beBytes_length] at hw
  have b := be4_lt
  have c := be8_lt
  refine ⟨by omega, by omega, by omega, by omega, by omega, by omega, by omega, b _ _, c _ _, c _ _, c _ _, c _ _⟩

theorem fits_wire (r : Req) (t : List UInt8) (h : Fit r) : fits (wire r ++ t) ↔ t = [] := by
  have := (read_wire r t h).1
  have e : fits (wire r ++ t) ↔ d9 (wire r ++ t) = ([], true) := Iff.rfl
  rw [e, this]
  constructor
  · intro e; exact (Prod.mk.inj e).1
  · intro e; rw [e]

theorem not_fits_cut (r : Req) (k : Nat) (h : Fit r) (hl : (wire r).length ≤ 2000000) (hk : k < (wire r).length) : ¬ fits ((wire r).take k) := by
  intro hf
  have hw := wire_read _ hf
  have hb : Fit (reqOf ((wire r).take k)) := fits_bounds _ hf (by rw [List.length_take]; omega)
  have h2 := (fits_wire (reqOf ((wire r).take k)) ((wire r).drop k) hb)
  rw [hw, List.take_append_drop] at h2
  have h3 := (fits_wire r [] h).2 rfl
  rw [List.append_nil] at h3
  have h4 := h2.1 h3
  have := congrArg List.length h4
  rw [List.length_drop] at this
  simp at this
  omega

end Go.Proofs.Qxb6002351aFmt
