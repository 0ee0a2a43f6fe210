/-
  Seat b6002351aF: the decoder: bytes, entry, end.
-/
import Derived.Test.Qxb6002351aFmtDec
namespace Go.Proofs.Qxb6002351aFmt
open Go.RowKit

theorem beNat_lt (l : List UInt8) : Lib.beNat l < 256 ^ l.length := by
  rw [Lib.beNat_eq, ← List.length_reverse]
  generalize l.reverse = r
  induction r with
  | nil => simp [Lib.leNat]
  | cons b r ih =>
    simp only [Lib.leNat, List.length_cons, Nat.pow_succ]
    have := b.toNat_lt
    omega

theorem tk_len (k : Nat) (l : List UInt8) (ok : Bool) : (tk k l ok).length ≤ k := by
  unfold tk
  split
  · rw [List.length_take]; omega
  · simp

theorem be4_lt (l : List UInt8) (ok : Bool) : Lib.beNat (tk 4 l ok) < 4294967296 := by
  have h1 := beNat_lt (tk 4 l ok)
  have h2 := Nat.pow_le_pow_right (n := 256) (by omega) (tk_len 4 l ok)
  omega

theorem be8_lt (l : List UInt8) (ok : Bool) : Lib.beNat (tk 8 l ok) < 18446744073709551616 := by
  have h1 := beNat_lt (tk 8 l ok)
  have h2 := Nat.pow_le_pow_right (n := 256) (by omega) (tk_len 8 l ok)
  omega

/-- A state of the decoder: the bytes that are left; no field missed yet. -/
abbrev S := List UInt8 × Bool
def nx (k : Nat) (s : S) : S := (tl k s.1 s.2, tok k s.1 s.2)
def rd (k : Nat) (s : S) : List UInt8 := tk k s.1 s.2
def num (k : Nat) (s : S) : Nat := Lib.beNat (rd k s)
/-- A field of bytes. -/
def by_ (s : S) : List UInt8 := rd (num 4 s) (nx 4 s)
def byN (s : S) : S := nx (num 4 s) (nx 4 s)
def Dp (w : World) (D Bd : Nat) (s : S) : Prop := Dc w D Bd s.1 s.2

theorem Dp.grown {w w' : World} {D Bd : Nat} {s : S} (h : Dp w D Bd s) (hg : w.grownBy w' none) : Dp w' D Bd s := Dc.grown h hg (by simp)

set_option maxHeartbeats 800000 in
theorem bytes_walk (D Bd x : Nat) (L1 L2 T : List UInt8) (K1 K2 : Bool) (w : World) (hlt : x < 4294967296)
    (H : Calls Tryf.prog 23 #[.pointer (some ⟨D, 0, none⟩)] w fun e w' => e = .returned (.int .u32 (x : Int)) ∧ Dc w' D Bd L1 K1 ∧ w.grownBy w' (some D))
    (H2 : ∀ w1, Dc w1 D Bd L1 K1 → Calls Tryf.prog 22 #[.pointer (some ⟨D, 0, none⟩), .int .i64 x] w1 fun e w' => ∃ v, e = .returned v ∧ Rd Bd w' v T ∧ Dc w' D Bd L2 K2 ∧ w1.grownBy w' (some D)) :
    Calls Tryf.prog 18 #[.pointer (some ⟨D, 0, none⟩)] w fun e w' => ∃ v, e = .returned v ∧ Rd Bd w' v T ∧ Dc w' D Bd L2 K2 ∧ w.grownBy w' (some D) := by
  go_enter Tryf.func18, Tryf.ntmps18
  go_wp2_with fail
  refine H.mono ?_
  clear H
  rintro e w1 ⟨rfl, hd, hg⟩
  go_wp2_with fail
  refine (H2 w1 hd).mono ?_
  clear H2
  rintro e w2 ⟨v, rfl, hr, hd2, hg2⟩
  go_wp2
  go_ret
  exact ⟨v, rfl, hr, hd2, hg.trans hg2⟩

/-- (*decoder).bytes. -/
theorem bytes_any (D Bd : Nat) (s : S) (w : World) (h : Dp w D Bd s) :
    Calls Tryf.prog 18 #[.pointer (some ⟨D, 0, none⟩)] w fun e w' => ∃ v, e = .returned v ∧ Rd Bd w' v (by_ s) ∧ Dp w' D Bd (byN s) ∧ w.grownBy w' (some D) :=
  bytes_walk D Bd (Lib.beNat (tk 4 s.1 s.2)) _ _ _ _ _ w (be4_lt s.1 s.2) (u32_any D Bd s.1 s.2 w h)
    (fun w1 h1 => (take_any D Bd _ _ _ w1 h1).mono (fun _ _ ⟨v, a, b, c, d, _⟩ => ⟨v, a, b, c, d⟩))

/-- int64 of a uint64. -/
def s64 (x : Nat) : Int := if x < 9223372036854775808 then (x : Int) else (x : Int) - 18446744073709551616

/-- (*decoder).entry: where the decoder stands before each of the four reads. -/
def enN (s : S) : S := nx 8 (nx 8 (nx 4 (byN s)))

theorem conv_s64 (x : Nat) (hx : x < 18446744073709551616) (W : World) : (convert 24 2 (.int .u64 (x : Int))).run Tryf.prog W = .ok (.int .i64 (s64 x)) W := by
  have h := run_convert_int (P := Tryf.prog) W 24 2 .u64 (x : Int) (by rw [Tryf.underlying24]; rfl) Tryf.underlying2
  rw [h]
  have : (Tryf.prog.intKind 2) = .i64 := by kernel_rfl
  rw [this]
  have e : IntKind.wrap .i64 (x : Int) = s64 x := by
    have hm : (x : Int) % 18446744073709551616 = x := by omega
    by_cases hc : x < 9223372036854775808
    · simp [IntKind.wrap, IntKind.bits, IntKind.signed, s64, hm, hc]; omega
    · simp [IntKind.wrap, IntKind.bits, IntKind.signed, s64, hm, hc]; omega
  rw [e]

/-- A row of another block stays. -/
theorem row_far {w w' : World} {b t n D : Nat} {f : Nat → Value} (h : w.rowIs b t n f) (hg : w.grownBy w' (some D)) (hne : b ≠ D) : w'.rowIs b t n f :=
  h.of_block (hg.block b h.lt (by intro e; cases e; exact hne rfl))

def zent : Nat → Value := fun i => if i = 0 then .slice none 0 0 else if i = 1 then .int .u32 0 else if i = 2 then .int .i64 0 else .int .u64 0

set_option maxHeartbeats 1600000 in
theorem entry_walk (D Bd f x c : Nat) (ex : Int) (T : List UInt8) (s0 s1 s2 s3 s4 : S) (w : World) (hD : D < w.heap.size) (hBd : Bd ≤ D) (h : Dp w D Bd s0)
    (hx : ∀ W, (convert 24 2 (.int .u64 (x : Int))).run Tryf.prog W = .ok (.int .i64 ex) W)
    (H1 : ∀ w, Dp w D Bd s0 → Calls Tryf.prog 18 #[.pointer (some ⟨D, 0, none⟩)] w fun e w' => ∃ v, e = .returned v ∧ Rd Bd w' v T ∧ Dp w' D Bd s1 ∧ w.grownBy w' (some D))
    (H2 : ∀ w, Dp w D Bd s1 → Calls Tryf.prog 23 #[.pointer (some ⟨D, 0, none⟩)] w fun e w' => e = .returned (.int .u32 (f : Int)) ∧ Dp w' D Bd s2 ∧ w.grownBy w' (some D))
    (H3 : ∀ w, Dp w D Bd s2 → Calls Tryf.prog 20 #[.pointer (some ⟨D, 0, none⟩)] w fun e w' => e = .returned (.int .u64 (x : Int)) ∧ Dp w' D Bd s3 ∧ w.grownBy w' (some D))
    (H4 : ∀ w, Dp w D Bd s3 → Calls Tryf.prog 20 #[.pointer (some ⟨D, 0, none⟩)] w fun e w' => e = .returned (.int .u64 (c : Int)) ∧ Dp w' D Bd s4 ∧ w.grownBy w' (some D)) :
    Calls Tryf.prog 19 #[.pointer (some ⟨D, 0, none⟩)] w fun e w' => ∃ v, e = .returned (.agg #[v, .int .u32 (f : Int), .int .i64 ex, .int .u64 (c : Int)]) ∧ Rd Bd w' v T ∧ Dp w' D Bd s4 ∧ w.grownBy w' (some D) := by
  have hrow : (w.alloc (Obj.cells #[Value.slice none 0 0, Value.int IntKind.u32 0, Value.int IntKind.i64 0, Value.int IntKind.u64 0] 44)).rowIs w.heap.size 44 4 zent := by
    refine ⟨#[Value.slice none 0 0, Value.int IntKind.u32 0, Value.int IntKind.i64 0, Value.int IntKind.u64 0], Go.Deep.blk_alloc_new _ _, rfl, ?_⟩
    intro i hi
    match i, hi with
    | 0, _ => rfl
    | 1, _ => rfl
    | 2, _ => rfl
    | 3, _ => rfl
  have g0 := World.grownBy_alloc w (Obj.cells #[Value.slice none 0 0, Value.int IntKind.u32 0, Value.int IntKind.i64 0, Value.int IntKind.u64 0] 44) none
  have d0 := h.grown g0
  have G0 : Hid (w.grownBy (w.alloc (Obj.cells #[Value.slice none 0 0, Value.int IntKind.u32 0, Value.int IntKind.i64 0, Value.int IntKind.u64 0] 44)) (some D)) := g0.but _
  obtain ⟨E, hE⟩ : ∃ E, E = w.heap.size := ⟨_, rfl⟩
  rw [← hE] at hrow
  have hED : E ≠ D := by omega
  have HE : Hid (E = w.heap.size) := hE
  clear g0
  go_enter Tryf.func19, Tryf.ntmps19
  go_wp2_with fail
  rw [← hE]
  clear hE
  refine (H1 _ d0).mono ?_
  rintro e w1 ⟨v, rfl, r1, d1, g1⟩
  have k1 := row_far hrow g1 hED
  have G1 : Hid (w.grownBy w1 (some D)) := G0.out.trans g1
  clear d0 g1 hrow G0
  go_wp2_with fail
  refine (H2 _ d1).mono ?_
  rintro e w2 ⟨rfl, d2, g2⟩
  have k2 := row_far k1 g2 hED
  have G2 : Hid (w.grownBy w2 (some D)) := G1.out.trans g2
  have r2 := r1.grown g2 (by have := d1.lt; omega) (fun j hj => by cases hj; exact hBd)
  clear d1 g2 k1 G1 r1
  go_wp2_with fail
  refine (H3 _ d2).mono ?_
  rintro e w3 ⟨rfl, d3, g3⟩
  have k3 := row_far k2 g3 hED
  have G3 : Hid (w.grownBy w3 (some D)) := G2.out.trans g3
  have r3 := r2.grown g3 (by have := d2.lt; omega) (fun j hj => by cases hj; exact hBd)
  clear d2 g3 k2 G2 r2
  go_wp2_with fail
  refine (H4 _ d3).mono ?_
  rintro e w4 ⟨rfl, d4, g4⟩
  have k4 := row_far k3 g4 hED
  have G4 : Hid (w.grownBy w4 (some D)) := G3.out.trans g4
  have r4 := r3.grown g4 (by have := d3.lt; omega) (fun j hj => by cases hj; exact hBd)
  clear d3 g4 k3 G3 r3
  have c0 := k4.cell (i := 0) (by omega)
  have c1 := k4.cell (i := 1) (by omega)
  have c2 := k4.cell (i := 2) (by omega)
  have c3 := k4.cell (i := 3) (by omega)
  have z0 := k4.frozen 0
  have z1 := k4.frozen 1
  have z2 := k4.frozen 2
  have z3 := k4.frozen 3
  simp [zent] at c0 c1 c2 c3
  have R4 : Hid (Rd Bd w4 v T) := r4
  have D4 : Hid (Dp w4 D Bd s4) := d4
  obtain ⟨av, cv, rfl, -⟩ := r4
  have K4 : Hid (w4.rowIs E 44 4 zent) := k4
  clear d4 k4
  go_wp2
  have hk := (((K4.out.set 0 (.slice av T.length cv)).set 1 (.int .u32 (f : Int))).set 2 (.int .i64 ex)).set 3 (.int .u64 (c : Int))
  have q0 := hk.cell (i := 0) (by omega)
  have q1 := hk.cell (i := 1) (by omega)
  have q2 := hk.cell (i := 2) (by omega)
  have q3 := hk.cell (i := 3) (by omega)
  simp at q0 q1 q2 q3
  refine bodyPost_ret (v := .agg #[.slice av T.length cv, .int .u32 (f : Int), .int .i64 ex, .int .u64 (c : Int)]) (by simp [results, Tryf.results19, go_sem, q0, q1, q2, q3]) rfl ?_
  have gE : ∀ (W : World) (j : Nat) (u : Value), W.grownBy (W.setCell ⟨E, j, none⟩ u) (some E) := fun W j u => grown_set W ⟨E, j, none⟩ u
  have gs := (((gE w4 0 (.slice av T.length cv)).trans (gE _ 1 (.int .u32 (f : Int)))).trans (gE _ 2 (.int .i64 ex))).trans (gE _ 3 (.int .u64 (c : Int)))
  have hEw := HE.out
  have hDw := D4.out.lt
  exact ⟨_, rfl, R4.out.grown gs (by omega) (fun j hj => by cases hj; omega), Dc.grown D4.out gs (fun j hj => by cases hj; omega), G4.out.andThen gs (fun j hj => by cases hj; left; omega)⟩

theorem entry_any (D Bd : Nat) (s : S) (w : World) (h : Dp w D Bd s) :
    Calls Tryf.prog 19 #[.pointer (some ⟨D, 0, none⟩)] w fun e w' => ∃ v, e = .returned (.agg #[v, .int .u32 ((num 4 (byN s) : Nat) : Int), .int .i64 (s64 (num 8 (nx 4 (byN s)))), .int .u64 ((num 8 (nx 8 (nx 4 (byN s))) : Nat) : Int)]) ∧ Rd Bd w' v (by_ s) ∧ Dp w' D Bd (enN s) ∧ w.grownBy w' (some D) :=
  entry_walk D Bd _ _ _ _ _ s (byN s) (nx 4 (byN s)) (nx 8 (nx 4 (byN s))) (enN s) w (Dc.lt h) (Dc.le h) h (conv_s64 _ (be8_lt _ _))
    (fun w1 h1 => bytes_any D Bd s w1 h1) (fun w1 h1 => u32_any D Bd _ _ w1 h1) (fun w1 h1 => u64_any D Bd _ _ w1 h1) (fun w1 h1 => u64_any D Bd _ _ w1 h1)

end Go.Proofs.Qxb6002351aFmt
