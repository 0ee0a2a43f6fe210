/-
  Seat b6002351aF: decodeRequest.
-/
import Derived.Test.Qxb6002351aFmtEnd
import Derived.Deep.RegionHeld3
import Derived.Deep.CutRange
namespace Go.Proofs.Qxb6002351aFmt
open Go.RowKit Go.Extern.Stop Go.Stop Go.Extern

/-- A zero request's cells. -/
def zreqs : List Value := [.string ⟨#[]⟩, .string ⟨#[]⟩, .string ⟨#[]⟩, .string ⟨#[]⟩, .string ⟨#[]⟩, .slice none 0 0, .int .u32 0, .int .i64 0, .int .u64 0, .int .u64 0, .int .u64 0, .slice none 0 0]
abbrev Zreq : Obj := .cells #[.string ⟨#[]⟩, .string ⟨#[]⟩, .string ⟨#[]⟩, .string ⟨#[]⟩, .string ⟨#[]⟩, .slice none 0 0, .int .u32 0, .int .i64 0, .int .u64 0, .int .u64 0, .int .u64 0, .slice none 0 0] 46

theorem row_new (w : World) : (w.alloc Zreq).rowIs w.heap.size 46 12 (fun i => zreqs.getD i undef) := by
  refine ⟨_, Go.Deep.blk_alloc_new _ _, rfl, ?_⟩
  intro i hi
  match i, hi with
  | 0, _ | 1, _ | 2, _ | 3, _ | 4, _ | 5, _ | 6, _ | 7, _ | 8, _ | 9, _ | 10, _ | 11, _ => rfl

theorem row_step {w w' : World} {D : Nat} (hg : (w.alloc Zreq).grownBy w' (some D)) (hD : w.heap.size ≠ D) : w'.rowIs w.heap.size 46 12 (fun i => zreqs.getD i undef) :=
  row_far (row_new w) hg hD

/-- The new request's block, behind the decoder's. -/
def Row (D : Nat) (w : World) (p : Nat) : Prop := w.rowIs p 46 12 (fun i => zreqs.getD i undef) ∧ D < p
theorem Row.step {w w' : World} {D : Nat} (hg : (w.alloc Zreq).grownBy w' (some D)) (hD : D < w.heap.size) : Row D w' w.heap.size :=
  ⟨row_step hg (Nat.ne_of_gt hD), hD⟩
theorem Row.stepD {w w' : World} {D : Nat} (hg : ((w.alloc Zreq).drew).grownBy w' (some D)) (hD : D < w.heap.size) : Row D w' w.heap.size :=
  Row.step ((grown_drew _ _).trans hg) hD
theorem Row.far {w w' : World} {D p : Nat} (h : Row D w p) (hg : w.grownBy w' (some D)) : Row D w' p := ⟨row_far h.1 hg (Nat.ne_of_gt h.2), h.2⟩
theorem Row.row {w : World} {D p : Nat} (h : Row D w p) : w.rowIs p 46 12 (fun i => zreqs.getD i undef) := h.1
theorem Row.lt {w : World} {D p : Nat} (h : Row D w p) : D < p := h.2
theorem rowz_cells {w : World} {p : Nat} (h : w.rowIs p 46 12 (fun i => zreqs.getD i undef)) : (w.cell? ⟨p, 0, none⟩ = some (.string ⟨#[]⟩) ∧ w.cell? ⟨p, 1, none⟩ = some (.string ⟨#[]⟩) ∧ w.cell? ⟨p, 2, none⟩ = some (.string ⟨#[]⟩) ∧ w.cell? ⟨p, 3, none⟩ = some (.string ⟨#[]⟩) ∧ w.cell? ⟨p, 4, none⟩ = some (.string ⟨#[]⟩) ∧ w.cell? ⟨p, 5, none⟩ = some (.slice none 0 0) ∧ w.cell? ⟨p, 6, none⟩ = some (.int .u32 0) ∧ w.cell? ⟨p, 7, none⟩ = some (.int .i64 0) ∧ w.cell? ⟨p, 8, none⟩ = some (.int .u64 0) ∧ w.cell? ⟨p, 9, none⟩ = some (.int .u64 0) ∧ w.cell? ⟨p, 10, none⟩ = some (.int .u64 0) ∧ w.cell? ⟨p, 11, none⟩ = some (.slice none 0 0)) ∧ w.frozen? ⟨p, 0, none⟩ = false ∧ w.frozen? ⟨p, 1, none⟩ = false ∧ w.frozen? ⟨p, 2, none⟩ = false ∧ w.frozen? ⟨p, 3, none⟩ = false ∧ w.frozen? ⟨p, 4, none⟩ = false ∧ w.frozen? ⟨p, 5, none⟩ = false ∧ w.frozen? ⟨p, 6, none⟩ = false ∧ w.frozen? ⟨p, 7, none⟩ = false ∧ w.frozen? ⟨p, 8, none⟩ = false ∧ w.frozen? ⟨p, 9, none⟩ = false ∧ w.frozen? ⟨p, 10, none⟩ = false ∧ w.frozen? ⟨p, 11, none⟩ = false :=
  ⟨⟨h.cell (i := 0) (by omega), h.cell (i := 1) (by omega), h.cell (i := 2) (by omega), h.cell (i := 3) (by omega), h.cell (i := 4) (by omega), h.cell (i := 5) (by omega), h.cell (i := 6) (by omega), h.cell (i := 7) (by omega), h.cell (i := 8) (by omega), h.cell (i := 9) (by omega), h.cell (i := 10) (by omega), h.cell (i := 11) (by omega)⟩, h.frozen 0, h.frozen 1, h.frozen 2, h.frozen 3, h.frozen 4, h.frozen 5, h.frozen 6, h.frozen 7, h.frozen 8, h.frozen 9, h.frozen 10, h.frozen 11⟩

/-- A fact that the walk's simp may use. -/
def Ap (Q : World → Prop) (w : World) : Prop := Q w
def Av (G : Value → Prop) (v : Value) : Prop := G v

/-- The cells of a request. -/
def rq (t1 t2 t3 t4 t5 : ByteArray) (v6 : Value) (fl ex cs de vi : Int) (v9 : Value) : List Value :=
  [.string t1, .string t2, .string t3, .string t4, .string t5, v6, .int .u32 fl, .int .i64 ex, .int .u64 cs, .int .u64 de, .int .u64 vi, v9]

/-- Where the ways of the request's building meet. -/
def Cutp (D : Nat) (P : Nat → World → Prop) (Q : World → Prop) (R : Nat → Value → Prop) (tx : Value → ByteArray) (fl ex cs de vi : Int) (s5 : Value) (wx : World) : Prop :=
  ∃ p v1 v2 v3 v4 v5 a6 n6 c6 a9 n9 c9, s5 = .pointer (some ⟨p, 0, none⟩) ∧ D < p ∧ wx.rowIs p 46 12 (fun i => (rq (tx v1) (tx v2) (tx v3) (tx v4) (tx v5) (.slice a6 n6 c6) fl ex cs de vi (.slice a9 n9 c9)).getD i undef) ∧ P 9 wx ∧ Ap Q wx ∧
    R 1 v1 ∧ R 2 v2 ∧ R 3 v3 ∧ R 4 v4 ∧ R 5 v5 ∧ R 6 (.slice a6 n6 c6) ∧ R 9 (.slice a9 n9 c9)

theorem set12 {w' : World} {p : Nat} (h : w'.rowIs p 46 12 (fun i => zreqs.getD i undef)) (t1 t2 t3 t4 t5 : ByteArray) (a6 : Option Addr) (n6 c6 : Nat) (fl ex cs de vi : Int) (a9 : Option Addr) (n9 c9 : Nat) :
    ((((((((((((w'.setCell ⟨p, 0, none⟩ (.string t1)).setCell ⟨p, 1, none⟩ (.string t2)).setCell ⟨p, 2, none⟩ (.string t3)).setCell ⟨p, 3, none⟩ (.string t4)).setCell ⟨p, 4, none⟩ (.string t5)).setCell ⟨p, 5, none⟩ (.slice a6 n6 c6)).setCell ⟨p, 6, none⟩ (.int .u32 fl)).setCell ⟨p, 7, none⟩ (.int .i64 ex)).setCell ⟨p, 8, none⟩ (.int .u64 cs)).setCell ⟨p, 9, none⟩ (.int .u64 de)).setCell ⟨p, 10, none⟩ (.int .u64 vi)).setCell ⟨p, 11, none⟩ (.slice a9 n9 c9)).rowIs p 46 12 (fun i => (rq t1 t2 t3 t4 t5 (.slice a6 n6 c6) fl ex cs de vi (.slice a9 n9 c9)).getD i undef) := by
  refine ((((((((((((h.set 0 (.string t1)).set 1 (.string t2)).set 2 (.string t3)).set 3 (.string t4)).set 4 (.string t5)).set 5 (.slice a6 n6 c6)).set 6 (.int .u32 fl)).set 7 (.int .i64 ex)).set 8 (.int .u64 cs)).set 9 (.int .u64 de)).set 10 (.int .u64 vi)).set 11 (.slice a9 n9 c9)).congr ?_
  intro i hi
  match i, hi with
  | 0, _ | 1, _ | 2, _ | 3, _ | 4, _ | 5, _ | 6, _ | 7, _ | 8, _ | 9, _ | 10, _ | 11, _ => rfl

theorem cut_alloc {D : Nat} {P : Nat → World → Prop} {Q : World → Prop} {R : Nat → Value → Prop} {tx : Value → ByteArray} {fl ex cs de vi : Int} {w' : World} {v1 v2 v3 v4 v5 : Value} {a6 : Option Addr} {n6 c6 : Nat} {a9 : Option Addr} {n9 c9 : Nat}
    (hPa : ∀ i w o, P i w → P i (w.alloc o)) (hQa : ∀ w o, Ap Q w → Ap Q (w.alloc o)) (hQn : ∀ w, Ap Q w → D < w.heap.size) (hP : P 9 w') (hQ : Ap Q w')
    (r1 : R 1 v1) (r2 : R 2 v2) (r3 : R 3 v3) (r4 : R 4 v4) (r5 : R 5 v5) (r6 : R 6 (.slice a6 n6 c6)) (r9 : R 9 (.slice a9 n9 c9)) :
    Cutp D P Q R tx fl ex cs de vi (.pointer (some ⟨w'.heap.size, 0, none⟩)) (w'.alloc (.cells #[.string (tx v1), .string (tx v2), .string (tx v3), .string (tx v4), .string (tx v5), .slice a6 n6 c6, .int .u32 fl, .int .i64 ex, .int .u64 cs, .int .u64 de, .int .u64 vi, .slice a9 n9 c9] 46)) := by
  refine ⟨w'.heap.size, v1, v2, v3, v4, v5, a6, n6, c6, a9, n9, c9, rfl, hQn _ hQ, ?_, hPa _ _ _ hP, hQa _ _ hQ, r1, r2, r3, r4, r5, r6, r9⟩
  refine ⟨_, Go.Deep.blk_alloc_new _ _, rfl, ?_⟩
  intro i hi
  match i, hi with
  | 0, _ | 1, _ | 2, _ | 3, _ | 4, _ | 5, _ | 6, _ | 7, _ | 8, _ | 9, _ | 10, _ | 11, _ => rfl

theorem cut_store {D : Nat} {P : Nat → World → Prop} {Q : World → Prop} {R : Nat → Value → Prop} {tx : Value → ByteArray} {fl ex cs de vi : Int} {w' : World} {p : Nat} {v1 v2 v3 v4 v5 : Value} {a6 : Option Addr} {n6 c6 : Nat} {a9 : Option Addr} {n9 c9 : Nat}
    (hrw : Row D w' p) (hPs : ∀ i w p j u, D < p → P i w → P i (w.setCell ⟨p, j, none⟩ u)) (hQs : ∀ w p j u, D < p → Ap Q w → Ap Q (w.setCell ⟨p, j, none⟩ u)) (hP : P 9 w') (hQ : Ap Q w')
    (r1 : R 1 v1) (r2 : R 2 v2) (r3 : R 3 v3) (r4 : R 4 v4) (r5 : R 5 v5) (r6 : R 6 (.slice a6 n6 c6)) (r9 : R 9 (.slice a9 n9 c9)) :
    Cutp D P Q R tx fl ex cs de vi (.pointer (some ⟨p, 0, none⟩)) ((((((((((((w'.setCell ⟨p, 0, none⟩ (.string (tx v1))).setCell ⟨p, 1, none⟩ (.string (tx v2))).setCell ⟨p, 2, none⟩ (.string (tx v3))).setCell ⟨p, 3, none⟩ (.string (tx v4))).setCell ⟨p, 4, none⟩ (.string (tx v5))).setCell ⟨p, 5, none⟩ (.slice a6 n6 c6)).setCell ⟨p, 6, none⟩ (.int .u32 fl)).setCell ⟨p, 7, none⟩ (.int .i64 ex)).setCell ⟨p, 8, none⟩ (.int .u64 cs)).setCell ⟨p, 9, none⟩ (.int .u64 de)).setCell ⟨p, 10, none⟩ (.int .u64 vi)).setCell ⟨p, 11, none⟩ (.slice a9 n9 c9)) :=
  ⟨p, v1, v2, v3, v4, v5, a6, n6, c6, a9, n9, c9, rfl, hrw.2, set12 hrw.1 _ _ _ _ _ a6 n6 c6 fl ex cs de vi a9 n9 c9, (hPs _ _ _ 11 _ hrw.2 (hPs _ _ _ 10 _ hrw.2 (hPs _ _ _ 9 _ hrw.2 (hPs _ _ _ 8 _ hrw.2 (hPs _ _ _ 7 _ hrw.2 (hPs _ _ _ 6 _ hrw.2 (hPs _ _ _ 5 _ hrw.2 (hPs _ _ _ 4 _ hrw.2 (hPs _ _ _ 3 _ hrw.2 (hPs _ _ _ 2 _ hrw.2 (hPs _ _ _ 1 _ hrw.2 (hPs _ _ _ 0 _ hrw.2 hP)))))))))))), (hQs _ _ 11 _ hrw.2 (hQs _ _ 10 _ hrw.2 (hQs _ _ 9 _ hrw.2 (hQs _ _ 8 _ hrw.2 (hQs _ _ 7 _ hrw.2 (hQs _ _ 6 _ hrw.2 (hQs _ _ 5 _ hrw.2 (hQs _ _ 4 _ hrw.2 (hQs _ _ 3 _ hrw.2 (hQs _ _ 2 _ hrw.2 (hQs _ _ 1 _ hrw.2 (hQs _ _ 0 _ hrw.2 hQ)))))))))))), r1, r2, r3, r4, r5, r6, r9⟩

theorem rq_cells {w : World} {p : Nat} {t1 t2 t3 t4 t5 : ByteArray} {v6 : Value} {fl ex cs de vi : Int} {v9 : Value} (h : w.rowIs p 46 12 (fun i => (rq t1 t2 t3 t4 t5 v6 fl ex cs de vi v9).getD i undef)) :
    w.cell? ⟨p, 0, none⟩ = some (.string t1) ∧ w.cell? ⟨p, 1, none⟩ = some (.string t2) ∧ w.cell? ⟨p, 2, none⟩ = some (.string t3) ∧ w.cell? ⟨p, 3, none⟩ = some (.string t4) ∧ w.cell? ⟨p, 4, none⟩ = some (.string t5) ∧ w.cell? ⟨p, 5, none⟩ = some (v6) ∧ w.cell? ⟨p, 6, none⟩ = some (.int .u32 fl) ∧ w.cell? ⟨p, 7, none⟩ = some (.int .i64 ex) ∧ w.cell? ⟨p, 8, none⟩ = some (.int .u64 cs) ∧ w.cell? ⟨p, 9, none⟩ = some (.int .u64 de) ∧ w.cell? ⟨p, 10, none⟩ = some (.int .u64 vi) ∧ w.cell? ⟨p, 11, none⟩ = some (v9) :=
  ⟨h.cell (i := 0) (by omega), h.cell (i := 1) (by omega), h.cell (i := 2) (by omega), h.cell (i := 3) (by omega), h.cell (i := 4) (by omega), h.cell (i := 5) (by omega), h.cell (i := 6) (by omega), h.cell (i := 7) (by omega), h.cell (i := 8) (by omega), h.cell (i := 9) (by omega), h.cell (i := 10) (by omega), h.cell (i := 11) (by omega)⟩

set_option maxHeartbeats 8000000 in
theorem decode_walk (D : Nat) (a : Option Addr) (n c : Nat) (fl ex cs de vi : Int) (w : World) (hD : D = w.heap.size + 1) (P : Nat → World → Prop) (Q : World → Prop) (Good : Value → Prop) (R : Nat → Value → Prop) (tx : Value → ByteArray) (Er : Value → Prop)
    (hPa : ∀ i w o, P i w → P i (w.alloc o)) (hPd : ∀ i w, P i w → P i w.drew) (hPs : ∀ i w p j u, D < p → P i w → P i (w.setCell ⟨p, j, none⟩ u))
    (hQa : ∀ w o, Ap Q w → Ap Q (w.alloc o)) (hQd : ∀ w, Ap Q w → Ap Q w.drew) (hQn : ∀ w, Ap Q w → D < w.heap.size) (hQs : ∀ w p j u, D < p → Ap Q w → Ap Q (w.setCell ⟨p, j, none⟩ u))
    (h41 : ∀ w v, Ap Q w → Av Good v → (convert 22 41 v).run Tryf.prog w = .ok (.string (tx v)) w)
    (h42 : ∀ w v, Ap Q w → Av Good v → (convert 22 42 v).run Tryf.prog w = .ok (.string (tx v)) w)
    (h9 : ∀ w v, Ap Q w → Av Good v → (convert 22 9 v).run Tryf.prog w = .ok (.string (tx v)) w)
    (hP0 : P 0 ((w.alloc Zreq).alloc (.cells #[.slice a n c, .nilIface] 51))) (hQ0 : Ap Q ((w.alloc Zreq).alloc (.cells #[.slice a n c, .nilIface] 51)))
    (H1 : ∀ w, P 0 w → Ap Q w → Calls Tryf.prog 18 #[.pointer (some ⟨D, 0, none⟩)] w fun e w' => ∃ a n c, e = .returned (.slice a n c) ∧ Av Good (.slice a n c) ∧ R 1 (.slice a n c) ∧ P 1 w' ∧ Ap Q w' ∧ w.grownBy w' (some D))
    (H2 : ∀ w, P 1 w → Ap Q w → Calls Tryf.prog 18 #[.pointer (some ⟨D, 0, none⟩)] w fun e w' => ∃ a n c, e = .returned (.slice a n c) ∧ Av Good (.slice a n c) ∧ R 2 (.slice a n c) ∧ P 2 w' ∧ Ap Q w' ∧ w.grownBy w' (some D))
    (H3 : ∀ w, P 2 w → Ap Q w → Calls Tryf.prog 18 #[.pointer (some ⟨D, 0, none⟩)] w fun e w' => ∃ a n c, e = .returned (.slice a n c) ∧ Av Good (.slice a n c) ∧ R 3 (.slice a n c) ∧ P 3 w' ∧ Ap Q w' ∧ w.grownBy w' (some D))
    (H4 : ∀ w, P 3 w → Ap Q w → Calls Tryf.prog 18 #[.pointer (some ⟨D, 0, none⟩)] w fun e w' => ∃ a n c, e = .returned (.slice a n c) ∧ Av Good (.slice a n c) ∧ R 4 (.slice a n c) ∧ P 4 w' ∧ Ap Q w' ∧ w.grownBy w' (some D))
    (H5 : ∀ w, P 4 w → Ap Q w → Calls Tryf.prog 18 #[.pointer (some ⟨D, 0, none⟩)] w fun e w' => ∃ a n c, e = .returned (.slice a n c) ∧ Av Good (.slice a n c) ∧ R 5 (.slice a n c) ∧ P 5 w' ∧ Ap Q w' ∧ w.grownBy w' (some D))
    (H6 : ∀ w, P 5 w → Ap Q w → Calls Tryf.prog 19 #[.pointer (some ⟨D, 0, none⟩)] w fun e w' => ∃ a n c, e = .returned (.agg #[.slice a n c, .int .u32 fl, .int .i64 ex, .int .u64 cs]) ∧ R 6 (.slice a n c) ∧ P 6 w' ∧ Ap Q w' ∧ w.grownBy w' (some D))
    (H7 : ∀ w, P 6 w → Ap Q w → Calls Tryf.prog 20 #[.pointer (some ⟨D, 0, none⟩)] w fun e w' => e = .returned (.int .u64 de) ∧ P 7 w' ∧ Ap Q w' ∧ w.grownBy w' (some D))
    (H8 : ∀ w, P 7 w → Ap Q w → Calls Tryf.prog 20 #[.pointer (some ⟨D, 0, none⟩)] w fun e w' => e = .returned (.int .u64 vi) ∧ P 8 w' ∧ Ap Q w' ∧ w.grownBy w' (some D))
    (H9 : ∀ w, P 8 w → Ap Q w → Calls Tryf.prog 18 #[.pointer (some ⟨D, 0, none⟩)] w fun e w' => ∃ a n c, e = .returned (.slice a n c) ∧ Av Good (.slice a n c) ∧ R 9 (.slice a n c) ∧ P 9 w' ∧ Ap Q w' ∧ w.grownBy w' (some D))
    (hQf : ∀ w1, Ap Q w1 → w.grownBy w1 none)
    (hQr : ∀ w1, Ap Q w1 → w1.rowIs w.heap.size 46 12 (fun i => zreqs.getD i undef))
    (H10 : ∀ w, P 9 w → Ap Q w → Calls Tryf.prog 21 #[.pointer (some ⟨D, 0, none⟩)] w fun e w' => ∃ er, e = .returned er ∧ Er er ∧ Ap Q w' ∧ w.grownBy w' (some D)) :
    Calls Tryf.prog 17 #[.slice a n c] w fun e w' => ∃ v1 v2 v3 v4 v5 a6 n6 c6 a9 n9 c9 er, e = .returned (.tuple #[.agg #[.string (tx v1), .string (tx v2), .string (tx v3), .string (tx v4), .string (tx v5), .slice a6 n6 c6, .int .u32 fl, .int .i64 ex, .int .u64 cs, .int .u64 de, .int .u64 vi, .slice a9 n9 c9], er]) ∧ Er er ∧ (R 1 v1 ∧ R 2 v2 ∧ R 3 v3 ∧ R 4 v4 ∧ R 5 v5 ∧ R 6 (.slice a6 n6 c6) ∧ R 9 (.slice a9 n9 c9)) ∧ w.grownBy w' none := by
  subst hD
  go_enter Tryf.func17, Tryf.ntmps17
  go_upto_region 2 with fail
  generalize ((w.alloc Zreq).alloc (.cells #[.slice a n c, .nilIface] 51)) = w0 at hP0 hQ0 ⊢
  have hP := hPd _ _ hP0
  have hQ := hQd _ hQ0
  go_cut [5] from 8 to 22 (fun s5 wx => Cutp (w.heap.size + 1) P Q R tx fl ex cs de vi s5 wx)
  case first =>
    go_region_held3 (fun w => Ap Q w) (with_reducible (first | assumption | exact hQa _ _ (by assumption) | exact hQd _ (by assumption) | exact hQd _ (hQa _ _ (by assumption)) | ((repeat (refine hQs _ _ _ _ (Row.lt (by assumption)) ?_)); assumption)))
      (first
        | (go_at_call 18; refine (H1 _ (by with_reducible (first | assumption | exact hPa _ _ _ (by assumption) | exact hPd _ _ (by assumption) | exact hPd _ _ (hPa _ _ _ (by assumption)))) (by with_reducible (first | assumption | exact hQa _ _ (by assumption) | exact hQd _ (by assumption) | exact hQd _ (hQa _ _ (by assumption))))).mono ?_; rintro e w' ⟨a1, n1, c1, rfl, hG1, hR1, hP, hQ, hg⟩; with_reducible (first | (have hrw := Row.step hg (hQn _ (by assumption))) | (have hrw := Row.stepD hg (hQn _ (by assumption))) | (have hrw := Row.far (by assumption) hg) | skip); clear hg)
        | (go_at_call 18; refine (H2 _ (by with_reducible (first | assumption | exact hPa _ _ _ (by assumption) | exact hPd _ _ (by assumption) | exact hPd _ _ (hPa _ _ _ (by assumption)))) (by with_reducible (first | assumption | exact hQa _ _ (by assumption) | exact hQd _ (by assumption) | exact hQd _ (hQa _ _ (by assumption))))).mono ?_; rintro e w' ⟨a2, n2, c2, rfl, hG2, hR2, hP, hQ, hg⟩; with_reducible (first | (have hrw := Row.step hg (hQn _ (by assumption))) | (have hrw := Row.stepD hg (hQn _ (by assumption))) | (have hrw := Row.far (by assumption) hg) | skip); clear hg)
        | (go_at_call 18; refine (H3 _ (by with_reducible (first | assumption | exact hPa _ _ _ (by assumption) | exact hPd _ _ (by assumption) | exact hPd _ _ (hPa _ _ _ (by assumption)))) (by with_reducible (first | assumption | exact hQa _ _ (by assumption) | exact hQd _ (by assumption) | exact hQd _ (hQa _ _ (by assumption))))).mono ?_; rintro e w' ⟨a3, n3, c3, rfl, hG3, hR3, hP, hQ, hg⟩; with_reducible (first | (have hrw := Row.step hg (hQn _ (by assumption))) | (have hrw := Row.stepD hg (hQn _ (by assumption))) | (have hrw := Row.far (by assumption) hg) | skip); clear hg)
        | (go_at_call 18; refine (H4 _ (by with_reducible (first | assumption | exact hPa _ _ _ (by assumption) | exact hPd _ _ (by assumption) | exact hPd _ _ (hPa _ _ _ (by assumption)))) (by with_reducible (first | assumption | exact hQa _ _ (by assumption) | exact hQd _ (by assumption) | exact hQd _ (hQa _ _ (by assumption))))).mono ?_; rintro e w' ⟨a4, n4, c4, rfl, hG4, hR4, hP, hQ, hg⟩; with_reducible (first | (have hrw := Row.step hg (hQn _ (by assumption))) | (have hrw := Row.stepD hg (hQn _ (by assumption))) | (have hrw := Row.far (by assumption) hg) | skip); clear hg)
        | (go_at_call 18; refine (H5 _ (by with_reducible (first | assumption | exact hPa _ _ _ (by assumption) | exact hPd _ _ (by assumption) | exact hPd _ _ (hPa _ _ _ (by assumption)))) (by with_reducible (first | assumption | exact hQa _ _ (by assumption) | exact hQd _ (by assumption) | exact hQd _ (hQa _ _ (by assumption))))).mono ?_; rintro e w' ⟨a5, n5, c5, rfl, hG5, hR5, hP, hQ, hg⟩; with_reducible (first | (have hrw := Row.step hg (hQn _ (by assumption))) | (have hrw := Row.stepD hg (hQn _ (by assumption))) | (have hrw := Row.far (by assumption) hg) | skip); clear hg)
        | (go_at_call 19; refine (H6 _ (by with_reducible (first | assumption | exact hPa _ _ _ (by assumption) | exact hPd _ _ (by assumption) | exact hPd _ _ (hPa _ _ _ (by assumption)))) (by with_reducible (first | assumption | exact hQa _ _ (by assumption) | exact hQd _ (by assumption) | exact hQd _ (hQa _ _ (by assumption))))).mono ?_; rintro e w' ⟨a6, n6, c6, rfl, hR6, hP, hQ, hg⟩; with_reducible (first | (have hrw := Row.step hg (hQn _ (by assumption))) | (have hrw := Row.stepD hg (hQn _ (by assumption))) | (have hrw := Row.far (by assumption) hg) | skip); clear hg)
        | (go_at_call 20; refine (H7 _ (by with_reducible (first | assumption | exact hPa _ _ _ (by assumption) | exact hPd _ _ (by assumption) | exact hPd _ _ (hPa _ _ _ (by assumption)))) (by with_reducible (first | assumption | exact hQa _ _ (by assumption) | exact hQd _ (by assumption) | exact hQd _ (hQa _ _ (by assumption))))).mono ?_; rintro e w' ⟨rfl, hP, hQ, hg⟩; with_reducible (first | (have hrw := Row.step hg (hQn _ (by assumption))) | (have hrw := Row.stepD hg (hQn _ (by assumption))) | (have hrw := Row.far (by assumption) hg) | skip); clear hg)
        | (go_at_call 20; refine (H8 _ (by with_reducible (first | assumption | exact hPa _ _ _ (by assumption) | exact hPd _ _ (by assumption) | exact hPd _ _ (hPa _ _ _ (by assumption)))) (by with_reducible (first | assumption | exact hQa _ _ (by assumption) | exact hQd _ (by assumption) | exact hQd _ (hQa _ _ (by assumption))))).mono ?_; rintro e w' ⟨rfl, hP, hQ, hg⟩; with_reducible (first | (have hrw := Row.step hg (hQn _ (by assumption))) | (have hrw := Row.stepD hg (hQn _ (by assumption))) | (have hrw := Row.far (by assumption) hg) | skip); clear hg)
        | (go_at_call 18; refine (H9 _ (by with_reducible (first | assumption | exact hPa _ _ _ (by assumption) | exact hPd _ _ (by assumption) | exact hPd _ _ (hPa _ _ _ (by assumption)))) (by with_reducible (first | assumption | exact hQa _ _ (by assumption) | exact hQd _ (by assumption) | exact hQd _ (hQa _ _ (by assumption))))).mono ?_; rintro e w' ⟨a9, n9, c9, rfl, hG9, hR9, hP, hQ, hg⟩; with_reducible (first | (have hrw := Row.step hg (hQn _ (by assumption)); obtain ⟨⟨k0, k1, k2, k3, k4, k5, k6, k7, k8, k9, k10, k11⟩, z0, z1, z2, z3, z4, z5, z6, z7, z8, z9, z10, z11⟩ := rowz_cells (Row.row hrw)) | (have hrw := Row.far (by assumption) hg; obtain ⟨⟨k0, k1, k2, k3, k4, k5, k6, k7, k8, k9, k10, k11⟩, z0, z1, z2, z3, z4, z5, z6, z7, z8, z9, z10, z11⟩ := rowz_cells (Row.row hrw)) | skip); clear hg))
    all_goals (go_wp2_with fail; go_meet; with_reducible (first | exact cut_alloc hPa hQa hQn hP hQ hR1 hR2 hR3 hR4 hR5 hR6 hR9 | exact cut_store hrw hPs hQs hP hQ hR1 hR2 hR3 hR4 hR5 hR6 hR9))
  case rest =>
  obtain ⟨p, v1, v2, v3, v4, v5, a6, n6, c6, a9, n9, c9, rfl, hDp, hrow, hP9, hQ9, r1, r2, r3, r4, r5, r6, r9⟩ := hcut
  have hpR : p ≠ w.heap.size := by omega
  clear h41 h42 h9 H1 H2 H3 H4 H5 H6 H7 H8 H9 hPa hPs hP0 hQ0 hP hQ
  have hrowd := hrow.drew
  have hPd9 := hPd _ _ hP9
  have hQd9 := hQd _ hQ9
  generalize hT1 : tx v1 = T1 at hrow hrowd
  generalize hT2 : tx v2 = T2 at hrow hrowd
  generalize hT3 : tx v3 = T3 at hrow hrowd
  generalize hT4 : tx v4 = T4 at hrow hrowd
  generalize hT5 : tx v5 = T5 at hrow hrowd
  have HT : Hid (tx v1 = T1 ∧ tx v2 = T2 ∧ tx v3 = T3 ∧ tx v4 = T4 ∧ tx v5 = T5) := ⟨hT1, hT2, hT3, hT4, hT5⟩
  clear hT1 hT2 hT3 hT4 hT5
  go_wp2_with fail
  go_region_held3 (fun w => w.cell? ⟨p, 0, none⟩ = some (.string T1) ∧ w.cell? ⟨p, 1, none⟩ = some (.string T2) ∧ w.cell? ⟨p, 2, none⟩ = some (.string T3) ∧ w.cell? ⟨p, 3, none⟩ = some (.string T4) ∧ w.cell? ⟨p, 4, none⟩ = some (.string T5) ∧ w.cell? ⟨p, 5, none⟩ = some (.slice a6 n6 c6) ∧ w.cell? ⟨p, 6, none⟩ = some (.int .u32 fl) ∧ w.cell? ⟨p, 7, none⟩ = some (.int .i64 ex) ∧ w.cell? ⟨p, 8, none⟩ = some (.int .u64 cs) ∧ w.cell? ⟨p, 9, none⟩ = some (.int .u64 de) ∧ w.cell? ⟨p, 10, none⟩ = some (.int .u64 vi) ∧ w.cell? ⟨p, 11, none⟩ = some (.slice a9 n9 c9))
    (first | (with_reducible exact rq_cells (by assumption)) | (refine rq_cells ?_; (repeat (with_reducible refine World.rowIs.setOther ?_ (by exact hpR) _)); with_reducible assumption))
    (first
      | (go_at_call 21; refine (H10 _ (by with_reducible assumption) (by with_reducible assumption)).mono ?_; rintro e w' ⟨er, rfl, hEr, hQ', hg⟩; have hrow' := row_far hrowd hg (by omega); have hRb := hQr _ hQ'; obtain ⟨⟨k0, k1, k2, k3, k4, k5, k6, k7, k8, k9, k10, k11⟩, z0, z1, z2, z3, z4, z5, z6, z7, z8, z9, z10, z11⟩ := rowz_cells hRb))
  go_wp2
  have hfin := set12 hRb T1 T2 T3 T4 T5 a6 n6 c6 fl ex cs de vi a9 n9 c9
  obtain ⟨q0, q1, q2, q3, q4, q5, q6, q7, q8, q9, q10, q11⟩ := rq_cells hfin
  obtain ⟨e1, e2, e3, e4, e5⟩ := HT.out
  refine bodyPost_ret (v := .tuple #[.agg #[.string T1, .string T2, .string T3, .string T4, .string T5, .slice a6 n6 c6, .int .u32 fl, .int .i64 ex, .int .u64 cs, .int .u64 de, .int .u64 vi, .slice a9 n9 c9], er]) (by simp [results, Tryf.results17, go_sem, q0, q1, q2, q3, q4, q5, q6, q7, q8, q9, q10, q11]) rfl ?_
  refine ⟨v1, v2, v3, v4, v5, a6, n6, c6, a9, n9, c9, er, by rw [e1, e2, e3, e4, e5], hEr, ⟨r1, r2, r3, r4, r5, r6, r9⟩, ?_⟩
  exact ((((((((((((hQf _ hQ').andThen (grown_set _ ⟨w.heap.size, 0, none⟩ (.string T1)) (fun j hj => by cases hj; exact .inl (Nat.le_refl _))).andThen (grown_set _ ⟨w.heap.size, 1, none⟩ (.string T2)) (fun j hj => by cases hj; exact .inl (Nat.le_refl _))).andThen (grown_set _ ⟨w.heap.size, 2, none⟩ (.string T3)) (fun j hj => by cases hj; exact .inl (Nat.le_refl _))).andThen (grown_set _ ⟨w.heap.size, 3, none⟩ (.string T4)) (fun j hj => by cases hj; exact .inl (Nat.le_refl _))).andThen (grown_set _ ⟨w.heap.size, 4, none⟩ (.string T5)) (fun j hj => by cases hj; exact .inl (Nat.le_refl _))).andThen (grown_set _ ⟨w.heap.size, 5, none⟩ (.slice a6 n6 c6)) (fun j hj => by cases hj; exact .inl (Nat.le_refl _))).andThen (grown_set _ ⟨w.heap.size, 6, none⟩ (.int .u32 fl)) (fun j hj => by cases hj; exact .inl (Nat.le_refl _))).andThen (grown_set _ ⟨w.heap.size, 7, none⟩ (.int .i64 ex)) (fun j hj => by cases hj; exact .inl (Nat.le_refl _))).andThen (grown_set _ ⟨w.heap.size, 8, none⟩ (.int .u64 cs)) (fun j hj => by cases hj; exact .inl (Nat.le_refl _))).andThen (grown_set _ ⟨w.heap.size, 9, none⟩ (.int .u64 de)) (fun j hj => by cases hj; exact .inl (Nat.le_refl _))).andThen (grown_set _ ⟨w.heap.size, 10, none⟩ (.int .u64 vi)) (fun j hj => by cases hj; exact .inl (Nat.le_refl _))).andThen (grown_set _ ⟨w.heap.size, 11, none⟩ (.slice a9 n9 c9)) (fun j hj => by cases hj; exact .inl (Nat.le_refl _))

end Go.Proofs.Qxb6002351aFmt
