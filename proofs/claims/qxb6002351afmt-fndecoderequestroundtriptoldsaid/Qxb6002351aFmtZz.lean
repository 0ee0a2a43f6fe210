/-
  Seat b6002351aF: ZZDecodeRequest.
-/
import Derived.Test.Qxb6002351aFmtDcd
namespace Go.Proofs.Qxb6002351aFmt
open Go.RowKit Go.Extern.Stop Go.Stop Go.Extern

abbrev Zzz : Obj := .cells #[.string ⟨#[]⟩, .string ⟨#[]⟩, .string ⟨#[]⟩, .string ⟨#[]⟩, .string ⟨#[]⟩, .slice none 0 0, .int .u32 0, .int .i64 0, .int .u64 0, .int .u64 0, .int .u64 0, .slice none 0 0] 29

theorem zrow_new (w : World) : (w.alloc Zzz).rowIs w.heap.size 29 12 (fun i => zreqs.getD i undef) := by
  refine ⟨_, Go.Deep.blk_alloc_new _ _, rfl, ?_⟩
  intro i hi
  match i, hi with
  | 0, _ | 1, _ | 2, _ | 3, _ | 4, _ | 5, _ | 6, _ | 7, _ | 8, _ | 9, _ | 10, _ | 11, _ => rfl

set_option maxHeartbeats 4000000 in
theorem zz_walk (v : Value) (t1 t2 t3 t4 t5 : ByteArray) (fl ex cs de vi : Int) (Er : Value → Prop) (X : Option Addr → Nat → Nat → Option Addr → Nat → Nat → Prop) (w : World)
    (H : Calls Tryf.prog 17 #[v] (w.alloc Zzz) fun e w' => ∃ a6 n6 c6 a9 n9 c9 er, e = .returned (.tuple #[.agg #[.string t1, .string t2, .string t3, .string t4, .string t5, .slice a6 n6 c6, .int .u32 fl, .int .i64 ex, .int .u64 cs, .int .u64 de, .int .u64 vi, .slice a9 n9 c9], er]) ∧ Er er ∧ X a6 n6 c6 a9 n9 c9 ∧ (w.alloc Zzz).grownBy w' none) :
    Calls Tryf.prog 9 #[v] w fun e w' => ∃ a6 n6 c6 a9 n9 c9 er, e = .returned (.tuple #[.agg #[.string t1, .string t2, .string t3, .string t4, .string t5, .slice a6 n6 c6, .int .u32 fl, .int .i64 ex, .int .u64 cs, .int .u64 de, .int .u64 vi, .slice a9 n9 c9], er]) ∧ Er er ∧ X a6 n6 c6 a9 n9 c9 ∧ w.grownBy w' none := by
  go_enter Tryf.func9, Tryf.ntmps9
  go_wp2_with fail
  refine H.mono ?_
  clear H
  rintro e w1 ⟨a6, n6, c6, a9, n9, c9, er, rfl, hEr, hX, hg⟩
  have hg1 := (World.grownBy_alloc w Zzz none).trans hg
  have hR : w1.rowIs w.heap.size 29 12 (fun i => zreqs.getD i undef) := (zrow_new w).of_block (hg.block w.heap.size (by simp) (by simp))
  have hlt := hR.lt
  have k0 := hR.cell (i := 0) (by omega)
  have z0 := hR.frozen 0
  have k1 := hR.cell (i := 1) (by omega)
  have z1 := hR.frozen 1
  have k2 := hR.cell (i := 2) (by omega)
  have z2 := hR.frozen 2
  have k3 := hR.cell (i := 3) (by omega)
  have z3 := hR.frozen 3
  have k4 := hR.cell (i := 4) (by omega)
  have z4 := hR.frozen 4
  have k5 := hR.cell (i := 5) (by omega)
  have z5 := hR.frozen 5
  have k6 := hR.cell (i := 6) (by omega)
  have z6 := hR.frozen 6
  have k7 := hR.cell (i := 7) (by omega)
  have z7 := hR.frozen 7
  have k8 := hR.cell (i := 8) (by omega)
  have z8 := hR.frozen 8
  have k9 := hR.cell (i := 9) (by omega)
  have z9 := hR.frozen 9
  have k10 := hR.cell (i := 10) (by omega)
  have z10 := hR.frozen 10
  have k11 := hR.cell (i := 11) (by omega)
  have z11 := hR.frozen 11
  simp [zreqs] at k0 k1 k2 k3 k4 k5 k6 k7 k8 k9 k10 k11
  clear hg
  have HR : Hid (w1.rowIs w.heap.size 29 12 (fun i => zreqs.getD i undef)) := hR
  clear hR
  go_wp2
  have hfin := ((((((((((((HR.out.set 0 (.string t1)).set 1 (.string t2)).set 2 (.string t3)).set 3 (.string t4)).set 4 (.string t5)).set 5 (.slice a6 n6 c6)).set 6 (.int .u32 fl)).set 7 (.int .i64 ex)).set 8 (.int .u64 cs)).set 9 (.int .u64 de)).set 10 (.int .u64 vi)).set 11 (.slice a9 n9 c9)).alloc (.cells #[.string t1, .string t2, .string t3, .string t4, .string t5, .slice a6 n6 c6, .int .u32 fl, .int .i64 ex, .int .u64 cs, .int .u64 de, .int .u64 vi, .slice a9 n9 c9] 46)
  have q0 := hfin.cell (i := 0) (by omega)
  have q1 := hfin.cell (i := 1) (by omega)
  have q2 := hfin.cell (i := 2) (by omega)
  have q3 := hfin.cell (i := 3) (by omega)
  have q4 := hfin.cell (i := 4) (by omega)
  have q5 := hfin.cell (i := 5) (by omega)
  have q6 := hfin.cell (i := 6) (by omega)
  have q7 := hfin.cell (i := 7) (by omega)
  have q8 := hfin.cell (i := 8) (by omega)
  have q9 := hfin.cell (i := 9) (by omega)
  have q10 := hfin.cell (i := 10) (by omega)
  have q11 := hfin.cell (i := 11) (by omega)
  simp at q0 q1 q2 q3 q4 q5 q6 q7 q8 q9 q10 q11
  refine bodyPost_ret (v := .tuple #[.agg #[.string t1, .string t2, .string t3, .string t4, .string t5, .slice a6 n6 c6, .int .u32 fl, .int .i64 ex, .int .u64 cs, .int .u64 de, .int .u64 vi, .slice a9 n9 c9], er]) (by simp [results, Tryf.results9, go_sem, q0, q1, q2, q3, q4, q5, q6, q7, q8, q9, q10, q11]) rfl ?_
  exact ⟨a6, n6, c6, a9, n9, c9, er, rfl, hEr, hX, (((((((((((((((((((((((((hg1).andThen (grown_set _ ⟨w.heap.size, 0, none⟩ (.string t1)) (fun j hj => by cases hj; exact .inl (Nat.le_refl _)))).andThen (grown_set _ ⟨w.heap.size, 1, none⟩ (.string t2)) (fun j hj => by cases hj; exact .inl (Nat.le_refl _)))).andThen (grown_set _ ⟨w.heap.size, 2, none⟩ (.string t3)) (fun j hj => by cases hj; exact .inl (Nat.le_refl _)))).andThen (grown_set _ ⟨w.heap.size, 3, none⟩ (.string t4)) (fun j hj => by cases hj; exact .inl (Nat.le_refl _)))).andThen (grown_set _ ⟨w.heap.size, 4, none⟩ (.string t5)) (fun j hj => by cases hj; exact .inl (Nat.le_refl _)))).andThen (grown_set _ ⟨w.heap.size, 5, none⟩ (.slice a6 n6 c6)) (fun j hj => by cases hj; exact .inl (Nat.le_refl _)))).andThen (grown_set _ ⟨w.heap.size, 6, none⟩ (.int .u32 fl)) (fun j hj => by cases hj; exact .inl (Nat.le_refl _)))).andThen (grown_set _ ⟨w.heap.size, 7, none⟩ (.int .i64 ex)) (fun j hj => by cases hj; exact .inl (Nat.le_refl _)))).andThen (grown_set _ ⟨w.heap.size, 8, none⟩ (.int .u64 cs)) (fun j hj => by cases hj; exact .inl (Nat.le_refl _)))).andThen (grown_set _ ⟨w.heap.size, 9, none⟩ (.int .u64 de)) (fun j hj => by cases hj; exact .inl (Nat.le_refl _)))).andThen (grown_set _ ⟨w.heap.size, 10, none⟩ (.int .u64 vi)) (fun j hj => by cases hj; exact .inl (Nat.le_refl _)))).andThen (grown_set _ ⟨w.heap.size, 11, none⟩ (.slice a9 n9 c9)) (fun j hj => by cases hj; exact .inl (Nat.le_refl _)))).trans (World.grownBy_alloc _ _ _)⟩

/-- ZZDecodeRequest. -/
theorem zz_any (F : Interp) (a : Option Addr) (c : Nat) (l : List UInt8) (w : World) (hF : F.answers w.tape) (hv : Rd w.heap.size w (.slice a l.length c) l) (hc : l.length ≤ c) :
    Calls Tryf.prog 9 #[.slice a l.length c] w fun e w' => ∃ a6 n6 c6 a9 n9 c9 er, e = .returned (.tuple #[.agg (reqVals (reqOf l) (.slice a6 n6 c6) (.slice a9 n9 c9)), er]) ∧ Err l er ∧ (Rd w.heap.size w (.slice a6 n6 c6) (reqOf l).value ∧ Rd w.heap.size w (.slice a9 n9 c9) (reqOf l).data) ∧ w.grownBy w' none := by
  have hsz : (w.alloc Zzz).heap.size = w.heap.size + 1 := by simp
  have hsame : ∀ k, k < w.heap.size → (w.alloc Zzz).heap[k]? = w.heap[k]? := fun k hk => (World.grownBy_alloc w Zzz none).block k hk (by simp)
  refine zz_walk _ _ _ _ _ _ _ _ _ _ _ (Err l) (fun a6 n6 c6 a9 n9 c9 => Rd w.heap.size w (.slice a6 n6 c6) (reqOf l).value ∧ Rd w.heap.size w (.slice a9 n9 c9) (reqOf l).data) w ?_
  have hv' : Rd w.heap.size (w.alloc Zzz) (.slice a l.length c) l := hv.same hsame
  refine (decode_any F w.heap.size a c l (w.alloc Zzz) hF (by omega) hv' hc).mono ?_
  rintro e w' ⟨a6, n6, c6, a9, n9, c9, er, rfl, hE, r6, r9, hg⟩
  exact ⟨a6, n6, c6, a9, n9, c9, er, rfl, hE, ⟨r6.same (fun k hk => (hsame k hk).symm), r9.same (fun k hk => (hsame k hk).symm)⟩, hg⟩

end Go.Proofs.Qxb6002351aFmt
