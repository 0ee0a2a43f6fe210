/-
  Seat b6600256a: (*names).repeats at the seventeenth name: the array is full, and its names go into a map.
-/
import Derived.Test.Qxb6600256aFew
namespace Go.Proofs.Qxb6600256a
open Go.RowKit Go.Maps Go.WideMaps

/-- The array's sixteen cells as one value. -/
def arr16 (f : Nat → Value) : Array Value := ((List.range 16).map f).toArray

theorem load16 (S : Nat) (f : Nat → Value) (w : World) (h : ∀ j, j < 16 → w.cell? ⟨S, j, none⟩ = some (f j)) : (loadVar 40 ⟨S, 0, none⟩).run Try.prog w = .ok (.agg (arr16 f)) w := by
  have hl : (loadCells ⟨S, 0, none⟩ 16).run Try.prog w = .ok (arr16 f) w :=
    run_loadCells (P := Try.prog) w ⟨S, 0, none⟩ 16 f (fun j hj => by
      have hadd : (⟨S, 0, none⟩ : Addr).add j = ⟨S, j, none⟩ := by unfold Addr.add; split <;> simp_all
      rw [hadd]; exact h j hj)
  have hagg : (isAgg 40).run Try.prog w = .ok true w := by
    unfold isAgg
    rw [Sem.run_bind, run_underlying Try.underlying40 w]
    simp
  have hs : (sizeOf 40).run Try.prog w = .ok 16 w := by kernel_rfl
  simp only [loadVar, Sem.run_bind, hagg, hs, hl, Result.andThen_ok, if_true, Sem.run_pure]

theorem wpList_load16 {ops : Array Oper} {rest : List Oper} {o : Oper} {a : Act} {w : World} {Q : Exit → Act → World → Prop} (hgd : o.guard = none) (x : Operand) (ho : o.op = .load 40 x)
    (S : Nat) (f : Nat → Value) (hx : a.eval x = .pointer (some ⟨S, 0, none⟩)) (hc : ∀ j, j < 16 → w.cell? ⟨S, j, none⟩ = some (f j))
    (h : wpList Try.prog ops Q rest (a.put o.dst (.agg (arr16 f))) w) : wpList Try.prog ops Q (o :: rest) a w := by
  refine wpList_plain hgd fun K hK => ?_
  unfold Oper.wp execOp
  simp only [ho, hx, Instr.loadAt, Instr.sureAddr, Sem.run_bind, Sem.run_pure, Result.andThen_ok, load16 S f w hc]
  exact hK _ _ h

theorem index16 (f : Nat → Value) (k : Nat) (hk : k < 16) (w : World) : (Instr.index 40 (.agg (arr16 f)) (.int .i64 (k : Int))).run Try.prog w = .ok (f k) w := by
  have hs : (sizeOf 22).run Try.prog w = .ok 1 w := by kernel_rfl
  have hagg : (isAgg 22).run Try.prog w = .ok false w := by
    unfold isAgg
    rw [Sem.run_bind, run_underlying Try.underlying22 w]
    simp
  have hp : (part 22 (arr16 f) k).run Try.prog w = .ok (f k) w := by
    simp [part, Sem.run_bind, hagg, arr16, hk]
  simp [Instr.index, Sem.run_bind, asIntOf, run_underlying Try.underlying40 w, hs, hp, hk]

theorem mk41 (w : World) : (Instr.makeMap 41 (some (.int .i64 32))).run Try.prog w = .ok (.map (some w.heap.size)) (w.alloc (.map #[] 0)) := by
  simp [Instr.makeMap, Sem.run_bind, asInt, asIntOf, run_underlying Try.underlying41 w]

/-- What holds ahead of each round in which the array's names go into the new map. -/
def Pour (S M : Nat) (w wr : World) (st : List (List Int)) (f : Nat → Value) (k : Nat) : Prop :=
  wr.rowIs S 43 18 f ∧ f 17 = .map (some M) ∧ S < M ∧ wr.ownsMap Try.prog 9 (unitElem (H := Unit)) M k (Ds (st.take k)) ∧ Below S w wr

theorem Ds_take {st : List (List Int)} {k : Nat} (h : k < st.length) : Ds (st.take (k + 1)) = (Ds (st.take k)).put (keyl (st.getD k [])) (.agg []) := by
  rw [List.take_succ_eq_append_getElem h, Ds_snoc]
  simp [List.getD, h]

/-- The row behind the store of the new map. -/
def withMap (f : Nat → Value) (M : Nat) : Nat → Value := fun j => if j = 17 then .map (some M) else f j

theorem pour_start {S : Nat} {w w1 : World} {st : List (List Int)} {f : Nat → Value} (hrow : w.rowIs S 43 18 f) (hw : w1.heap = w.heap) (ho : w1.os = w.os) (ht : w1.tape = w.tape) (hp : w1.output = w.output) :
    Pour S w.heap.size w ((w1.alloc (.map #[] 0)).setCell ⟨S, 17, none⟩ (.map (some w.heap.size))) st (withMap f w.heap.size) 0 := by
  have hlt := hrow.lt
  have hrow1 : w1.rowIs S 43 18 f := hrow.of_block (by rw [hw])
  have hb0 : Below S w w1 := ⟨ho, ht, hp, by rw [hw]; exact Nat.le_refl _, fun k _ => by rw [hw]⟩
  refine ⟨(hrow1.alloc _).set 17 _, by simp [withMap], hlt, ?_, ?_⟩
  · have hm := World.ownsMap_made w1 Try.prog 9 (unitElem (H := Unit))
    rw [hw] at hm
    exact hm.setCell (by simp; omega) _
  · exact (hb0.alloc (by rw [hw]; omega) _).setCell (Nat.le_refl _) _

theorem pour_step {S M : Nat} {w wr w2 : World} {st : List (List Int)} {f : Nat → Value} {k : Nat} (h : Pour S M w wr st f k) (hk : k < st.length)
    (hown : w2.ownsMap Try.prog 9 (unitElem (H := Unit)) M (k + 1) ((Ds (st.take k)).put (keyl (st.getD k [])) (.agg []))) (hturn : wr.drew.mapTurned w2 M) : Pour S M w w2 st f (k + 1) := by
  obtain ⟨hrow, h17, hSM, hown0, hb⟩ := h
  have hlt := hrow.lt
  have hgr := hturn.grown
  refine ⟨(hrow.drew).of_block (hgr.block S (by simp; omega) (by simp; omega)), h17, hSM, ?_, hb.drew.grown hgr (by simp; omega) (fun j hj => by cases hj; omega)⟩
  rw [Ds_take hk]
  exact hown

set_option maxHeartbeats 1600000 in
theorem full_any (S : Nat) (w : World) (st : List (List Int)) (a : Option Addr) (n c : Nat) (xs : List Int) (h : Few S w st) (hst : ∀ y ∈ st, Okb y) (hv : ByRow S w (.slice a n c) xs) (hx : Okb xs) (hfull : st.length = 16) :
    Calls Try.prog 22 #[.pointer (some ⟨S, 0, none⟩), .slice a n c] w fun e w' => e = .returned (.bool (hasN st xs)) ∧ (Few S w' (addN st xs) ∨ Many S w' (addN st xs)) ∧ Below S w w' := by
  obtain ⟨h16, f, hrow, hf16, hf17, hby⟩ := h
  rw [hfull] at hf16
  have hSlt := hrow.lt
  have c17 := hrow.cell (i := 17) (by omega)
  have c16 := hrow.cell (i := 16) (by omega)
  rw [hf17] at c17
  rw [hf16] at c16
  have fz := hrow.frozen
  have HR : Hid (w.rowIs S 43 18 f) := hrow
  have HF : Hid (f 16 = .int .i64 ((16 : Nat) : Int) ∧ f 17 = .map none ∧ st.length = 16) := ⟨hf16, hf17, hfull⟩
  clear hf16 hf17 hrow hfull
  have qm : ∀ (w : World) (r : Option Nat), (binOp .neq 41 (.map r) (.map none)).run Try.prog w = .ok (.bool (!r.isNone)) w := fun w r => run_neq_map_nil w _ _ _ r Try.underlying41
  have hmm := mk41
  go_enter Try.func22, Try.ntmps22
  go_wp2
  go_quiet (fail)
  go_wp2
  go_loopw [43, 8] (fun i s wr => ∃ k : Nat, k ≤ 16 ∧ i = .int .i64 k ∧ NoneTo st xs k ∧ wr = w.drewN nq)
    (fun i _ _ => 16 - (intOf i).toNat)
  case atStart => exact ⟨0, Nat.zero_le _, rfl, fun j hj => by omega, rfl⟩
  case round =>
    obtain ⟨k, hk, rfl, hno, rfl⟩ := hrel
    by_cases hlt : k < 16
    · have hlt' : (k : Int) < 16 := by omega
      have h0 : (0 : Int) ≤ (k : Int) := by omega
      have hks : k < st.length := by rw [HF.out.2.2]; exact hlt
      have ck := HR.out.cell (i := k) (by omega)
      have okk := hst _ (getD_mem hks)
      obtain ⟨ak, nk, ck', ek⟩ : ∃ a n c, f k = .slice a n c := by
        rcases hby k hks with ⟨e, _⟩ | ⟨b, _, e, _⟩
        · exact ⟨_, _, _, e⟩
        · exact ⟨_, _, _, e⟩
      rw [ek] at ck
      have hbk := hby k hks
      rw [ek] at hbk
      have HB : Hid (ByRow S w (.slice ak nk ck') (st.getD k [])) := hbk
      clear hbk ek
      go_wp2_with fail
      refine (equal_any (HB.out.below (w' := w.drewN nq) ⟨rfl, rfl, rfl, Nat.le_refl _, fun _ _ => rfl⟩) (hv.below ⟨rfl, rfl, rfl, Nat.le_refl _, fun _ _ => rfl⟩) okk.2 hx.2).mono ?_
      rintro e w' ⟨rfl, rfl⟩
      by_cases he : st.getD k [] = xs
      · have hmem : xs ∈ st := by rw [← he]; exact getD_mem hks
        rw [decide_eq_true he]
        have HH : Hid (xs ∈ st) := hmem
        clear he hmem
        go_wp2
        go_ret
        have hm := HH.out
        refine ⟨by rw [hasN_in hm]; rfl, .inl ?_, ⟨rfl, rfl, rfl, Nat.le_refl _, fun _ _ => rfl⟩⟩
        rw [addN_in hm]
        exact ⟨h16, f, HR.out, by rw [HF.out.2.2]; exact HF.out.1, HF.out.2.1, fun i hi => (hby i hi).below ⟨rfl, rfl, rfl, Nat.le_refl _, fun _ _ => rfl⟩⟩
      · rw [decide_eq_false he]
        have HH : Hid (¬ st.getD k [] = xs) := he
        clear he
        go_wp2
        go_roundw
        case rel => exact ⟨k + 1, by omega, by go_num, noneTo_succ hno HH.out, by first | rfl | trivial⟩
        case measure => simp [intOf]; omega
    · have hkl : k = 16 := by omega
      subst hkl
      have hmem := noneTo_all (st := st) (xs := xs) (by rw [HF.out.2.2]; exact hno)
      have HH : Hid (¬ xs ∈ st) := hmem
      clear hmem hno
      have c17a : ∀ o, ((w.drewN nq).alloc o).cell? ⟨S, 17, none⟩ = some (.map none) := fun o => (World.cell?_alloc_lt (w.drewN nq) o ⟨S, 17, none⟩ hSlt).trans c17
      have fza : ∀ o, ((w.drewN nq).alloc o).frozen? ⟨S, 17, none⟩ = false := fun o => (((Below.refl (w.drewN nq).heap.size (w.drewN nq)).alloc (Nat.le_refl _) o).frozen (by exact hSlt)).trans (fz 17)
      go_wp2_with (first | (refine wpList_load16 rfl _ rfl S f rfl ?hcc ?_))
      case hcc =>
        intro j hj
        have hp := pour_start (st := st) (w1 := w.drewN nq) HR.out rfl rfl rfl rfl
        rw [hp.1.cell (by omega)]
        have e : ¬ j = 17 := by omega
        simp [withMap, e]
      clear c16 fz c17a fza c17
      go_loopw [80, 10] (fun i s wr => ∃ k : Nat, k ≤ 16 ∧ i = .int .i64 k ∧ Pour S w.heap.size w wr st (withMap f w.heap.size) k)
        (fun i _ _ => 16 - (intOf i).toNat)
      case atStart => exact ⟨0, Nat.zero_le _, rfl, pour_start HR.out rfl rfl rfl rfl⟩
      case round =>
        obtain ⟨k, hk, rfl, hp⟩ := hrel
        have hp' := hp
        obtain ⟨hrow, h17, hSM, hown, hbel⟩ := hp'
        have cm := hrow.cell (i := 17) (by omega)
        rw [h17] at cm
        clear hrow h17
        by_cases hlt : k < 16
        · have hlt' : (k : Int) < 16 := by omega
          have hks : k < st.length := by rw [HF.out.2.2]; exact hlt
          have okk := hst _ (getD_mem hks)
          obtain ⟨ak, nk, ck', ek⟩ : ∃ a n c, f k = .slice a n c := by
            rcases hby k hks with ⟨e, _⟩ | ⟨b, _, e, _⟩
            · exact ⟨_, _, _, e⟩
            · exact ⟨_, _, _, e⟩
          have hix := index16 f k hlt
          rw [ek] at hix
          have hbk := hby k hks
          rw [ek] at hbk
          obtain ⟨y, hy⟩ : ∃ y, y = st.getD k [] := ⟨_, rfl⟩
          rw [← hy] at hbk okk
          have hcv := conv_any ((hbk.below hbel).below (Below.refl _ _).drew)
          obtain ⟨w2, hrun2, hown2, hturn2⟩ := hown.drew.store law9 Try.underlying41 (by unfold maxLen; omega) (key_any okk) (unitElem_mk (H := Unit))
          have HP := pour_step hp hks (by rw [← hy]; exact hown2) hturn2
          have HQ : Hid (Pour S w.heap.size w w2 st (withMap f w.heap.size) (k + 1)) := HP
          clear HP hbk ek hown2 hturn2 hown hbel hp hy
          go_wp2
          go_region
          all_goals go_wp2
          go_roundw
          case rel => exact ⟨k + 1, by omega, by go_num, HQ.out⟩
          case measure => simp [intOf]; omega
        · have hkl : k = 16 := by omega
          subst hkl
          have hcv := conv_any ((hv.below hbel).below (Below.refl _ _).drew)
          obtain ⟨w2, hrun2, hown2, hturn2⟩ := hown.drew.store law9 Try.underlying41 (by unfold maxLen; omega) (key_any hx) (unitElem_mk (H := Unit))
          have HQ : Hid (w2.ownsMap Try.prog 9 (unitElem (H := Unit)) w.heap.size (16 + 1) ((Ds (st.take 16)).put (keyl xs) (.agg [])) ∧ wr.drew.mapTurned w2 w.heap.size) := ⟨hown2, hturn2⟩
          have HB : Hid (Below S w wr) := hbel
          clear hown2 hturn2 hown hbel
          go_wp2
          go_region
          all_goals go_wp2
          go_ret
          have hm := HH.out
          have hgr := HQ.out.2.grown
          have hlr := hp.1.lt
          refine ⟨by rw [hasN_new hm]; rfl, .inr ?_, HB.out.drew.grown hgr (by simp; omega) (fun j hj => by cases hj; omega)⟩
          rw [addN_new hm]
          refine ⟨_, w.heap.size, (hp.1.drew).of_block (hgr.block S (by simp; omega) (by simp; omega)), hp.2.1, hSM, ?_⟩
          have e : st.take 16 = st := List.take_of_length_le h16
          have ho := HQ.out.1
          rw [e] at ho
          rw [Ds_snoc, List.length_append, HF.out.2.2]
          exact ho

end Go.Proofs.Qxb6600256a
