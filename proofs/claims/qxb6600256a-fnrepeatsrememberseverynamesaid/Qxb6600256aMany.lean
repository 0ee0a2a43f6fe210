/-
  Seat b6600256a: (*names).repeats once the names lie in the map.
-/
import Derived.Test.Qxb6600256aBase
import Derived.Maps.OwnSet
import Derived.RegionTactic
import Derived.BigRegion
namespace Go.Proofs.Qxb6600256a
open Go.RowKit Go.Maps Go.WideMaps

theorem law9 : Keyed Try.prog 9 := string_keyed Try.underlying9
theorem zero47 (w : World) : (zeroValue 47).run Try.prog w = .ok (.agg #[]) w := by kernel_rfl

/-- The key under which a name stands. -/
def keyl (xs : List Int) : Lit := .string (strOfNums xs).data.toList
/-- The set that holds just the names st. -/
def Ds (st : List (List Int)) : DataW Unit := setOf (.agg []) (st.map keyl)

theorem Ds_snoc (st : List (List Int)) (xs : List Int) : Ds (st ++ [xs]) = (Ds st).put (keyl xs) (.agg []) := by
  unfold Ds; rw [List.map_append, List.map_singleton, setOf_snoc]

theorem key_any {xs : List Int} (h : Okb xs) : keyOf Try.prog 9 (.string (strOfNums xs)) = some (keyl xs) :=
  keyOf_string_mk Try.underlying9 (by rw [strOfNums_size]; have := h.1; unfold maxLen; omega)

theorem has_Ds {st : List (List Int)} {xs : List Int} (hst : ∀ y ∈ st, Okb y) (hx : Okb xs) : Maps.has (Ds st) (keyl xs) = decide (xs ∈ st) := by
  unfold Ds
  rw [has_setOf _ _ _ (fun y hy => by obtain ⟨_, _, rfl⟩ := List.mem_map.1 hy; trivial), List.any_map]
  induction st with
  | nil => simp
  | cons y r ih =>
    have ih' := ih (fun z hz => hst z (by simp [hz]))
    have hy := hst y (by simp)
    rw [List.any_cons, ih']
    have e : ((fun x : Lit => x.sameKey (keyl xs)) ∘ keyl) y = decide (xs = y) := by
      show ((strOfNums y).data.toList == (strOfNums xs).data.toList) = decide (xs = y)
      by_cases e : xs = y
      · subst e; simp
      · simp only [e, decide_false, beq_eq_false_iff_ne, ne_eq]
        intro h
        exact e (strOfNums_inj hx.2 hy.2 h.symm)
    rw [e]
    simp [List.mem_cons]

def Many (S : Nat) (w : World) (st : List (List Int)) : Prop :=
  ∃ f M, w.rowIs S 43 18 f ∧ f 17 = .map (some M) ∧ S < M ∧ w.ownsMap Try.prog 9 (unitElem (H := Unit)) M st.length (Ds st)

set_option maxHeartbeats 800000 in
theorem many_old (S : Nat) (w : World) (st : List (List Int)) (v : Value) (xs : List Int) (h : Many S w st) (hst : ∀ y ∈ st, Okb y) (hv : ByRow S w v xs) (hx : Okb xs) (hin : xs ∈ st) :
    Calls Try.prog 22 #[.pointer (some ⟨S, 0, none⟩), v] w fun e w' => e = .returned (.bool true) ∧ Many S w' st ∧ Below S w w' := by
  obtain ⟨f, M, hrow, h17, hSM, hown⟩ := h
  have hSlt := hrow.lt
  have c17 := hrow.cell (i := 17) (by omega)
  rw [h17] at c17
  have qm : ∀ (w : World) (r : Option Nat), (binOp .neq 41 (.map r) (.map none)).run Try.prog w = .ok (.bool (!r.isNone)) w := fun w r => run_neq_map_nil w _ _ _ r Try.underlying41
  have kc := fun o => conv_any ((hv.below ((Below.refl S w).alloc (by omega) o)).below (Below.refl _ _).drew)
  have kc0 := conv_any (hv.below (Below.refl _ _).drew)
  have hlk : ∀ o, ((Instr.lookup 41 (.map (some M)) (.string (strOfNums xs)) true).run Try.prog (w.alloc o).drew = .ok (.tuple #[.agg #[], .bool true]) (w.alloc o).drew) := by
    intro o
    obtain ⟨u, ps, hrun, hu⟩ := (hown.alloc o).drew.look_ok law9 Try.underlying41 (zero47 _) unitElem_mk (key_any hx)
    obtain ⟨rfl, _⟩ := unitElem_inv hu
    rw [has_Ds hst hx] at hrun
    simpa [hin] using hrun
  have hlk0 : ((Instr.lookup 41 (.map (some M)) (.string (strOfNums xs)) true).run Try.prog w.drew = .ok (.tuple #[.agg #[], .bool true]) w.drew) := by
    obtain ⟨u, ps, hrun, hu⟩ := hown.drew.look_ok law9 Try.underlying41 (zero47 _) unitElem_mk (key_any hx)
    obtain ⟨rfl, _⟩ := unitElem_inv hu
    rw [has_Ds hst hx] at hrun
    simpa [hin] using hrun
  have HM : Hid (f 17 = Value.map (some M)) := h17
  clear hv h17 hin
  go_enter Try.func22, Try.ntmps22
  go_wp2
  go_region
  all_goals go_wp2
  all_goals go_ret
  all_goals exact ⟨rfl, ⟨f, M, (hrow.alloc _).drew, HM.out, hSM, (hown.alloc _).drew⟩, ((Below.refl _ _).alloc (by omega) _).drew⟩

set_option maxHeartbeats 800000 in
theorem many_new (S : Nat) (w : World) (st : List (List Int)) (v : Value) (xs : List Int) (h : Many S w st) (hst : ∀ y ∈ st, Okb y) (hv : ByRow S w v xs) (hx : Okb xs) (hin : ¬ xs ∈ st) (hlen : st.length < 1099511627776) :
    Calls Try.prog 22 #[.pointer (some ⟨S, 0, none⟩), v] w fun e w' => e = .returned (.bool false) ∧ Many S w' (st ++ [xs]) ∧ Below S w w' := by
  obtain ⟨f, M, hrow, h17, hSM, hown⟩ := h
  have hSlt := hrow.lt
  have c17 := hrow.cell (i := 17) (by omega)
  rw [h17] at c17
  have qm : ∀ (w : World) (r : Option Nat), (binOp .neq 41 (.map r) (.map none)).run Try.prog w = .ok (.bool (!r.isNone)) w := fun w r => run_neq_map_nil w _ _ _ r Try.underlying41
  have kc := fun o => conv_any ((hv.below ((Below.refl S w).alloc (by omega) o)).below (Below.refl _ _).drew)
  have kc2 := fun o => conv_any (((hv.below ((Below.refl S w).alloc (by omega) o)).below (Below.refl _ _).drew).below (Below.refl _ _).drew)
  have kc0 := conv_any (hv.below (Below.refl _ _).drew)
  have hlk : ∀ o, ((Instr.lookup 41 (.map (some M)) (.string (strOfNums xs)) true).run Try.prog (w.alloc o).drew = .ok (.tuple #[.agg #[], .bool false]) (w.alloc o).drew) := by
    intro o
    obtain ⟨u, ps, hrun, hu⟩ := (hown.alloc o).drew.look_ok law9 Try.underlying41 (zero47 _) unitElem_mk (key_any hx)
    obtain ⟨rfl, _⟩ := unitElem_inv hu
    rw [has_Ds hst hx] at hrun
    simpa [hin] using hrun
  have hlk0 : ((Instr.lookup 41 (.map (some M)) (.string (strOfNums xs)) true).run Try.prog w.drew = .ok (.tuple #[.agg #[], .bool false]) w.drew) := by
    obtain ⟨u, ps, hrun, hu⟩ := hown.drew.look_ok law9 Try.underlying41 (zero47 _) unitElem_mk (key_any hx)
    obtain ⟨rfl, _⟩ := unitElem_inv hu
    rw [has_Ds hst hx] at hrun
    simpa [hin] using hrun
  have HM : Hid (f 17 = Value.map (some M)) := h17
  clear hv h17 hin
  obtain ⟨w2, hrun2, hown2, hturn2⟩ := (hown.alloc (.cells #[] 47)).drew.drew.store law9 Try.underlying41 (by unfold maxLen; omega) (key_any hx) (unitElem_mk (H := Unit))
  go_enter Try.func22, Try.ntmps22
  go_wp2
  go_region
  all_goals go_wp2
  go_region
  all_goals go_wp2
  all_goals go_ret
  have hgr := hturn2.grown
  have hbel : Below S w w2 := (((Below.refl _ _).alloc (by omega) _).drew.drew).grown hgr (by simp; omega) (fun j hj => by cases hj; omega)
  have hrow2 : w2.rowIs S 43 18 f := ((hrow.alloc (.cells #[] 47)).drew.drew).of_block (hgr.block S (by simp; omega) (by simp; omega))
  refine ⟨rfl, ⟨f, M, hrow2, HM.out, hSM, ?_⟩, hbel⟩
  rw [Ds_snoc, List.length_append]
  exact hown2

end Go.Proofs.Qxb6600256a
