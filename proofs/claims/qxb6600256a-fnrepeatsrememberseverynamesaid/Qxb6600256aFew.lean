/-
  Seat b6600256a: (*names).repeats while the names lie in the array.
-/
import Derived.Test.Qxb6600256aMany
namespace Go.Proofs.Qxb6600256a
open Go.RowKit Go.Maps Go.WideMaps

def Few (S : Nat) (w : World) (st : List (List Int)) : Prop :=
  st.length ≤ 16 ∧ ∃ f, w.rowIs S 43 18 f ∧ f 16 = .int .i64 st.length ∧ f 17 = .map none ∧ ∀ i, i < st.length → ByRow S w (f i) (st.getD i [])

/-- Is the name known? -/
def hasN (st : List (List Int)) (xs : List Int) : Bool := decide (xs ∈ st)
/-- The names behind the call. -/
def addN (st : List (List Int)) (xs : List Int) : List (List Int) := if xs ∈ st then st else st ++ [xs]
theorem hasN_in {st : List (List Int)} {xs : List Int} (h : xs ∈ st) : hasN st xs = true := decide_eq_true h
theorem hasN_new {st : List (List Int)} {xs : List Int} (h : ¬ xs ∈ st) : hasN st xs = false := decide_eq_false h
theorem addN_in {st : List (List Int)} {xs : List Int} (h : xs ∈ st) : addN st xs = st := if_pos h
theorem addN_new {st : List (List Int)} {xs : List Int} (h : ¬ xs ∈ st) : addN st xs = st ++ [xs] := if_neg h

/-- None of the first k names is xs. -/
def NoneTo (st : List (List Int)) (xs : List Int) (k : Nat) : Prop := ∀ j, j < k → st.getD j [] ≠ xs

theorem noneTo_all {st : List (List Int)} {xs : List Int} (h : NoneTo st xs st.length) : ¬ xs ∈ st := by
  intro hm
  obtain ⟨j, hj, e⟩ := List.mem_iff_getElem.1 hm
  exact h j hj (by simp [List.getD, hj, e])

theorem noneTo_succ {st : List (List Int)} {xs : List Int} {k : Nat} (h : NoneTo st xs k) (h' : st.getD k [] ≠ xs) : NoneTo st xs (k + 1) := by
  intro j hj
  by_cases e : j = k
  · subst e; exact h'
  · exact h j (by omega)

theorem getD_mem {st : List (List Int)} {k : Nat} (h : k < st.length) : st.getD k [] ∈ st := by
  simp [List.getD, h]

/-- A name goes into the array. -/
theorem few_store {S : Nat} {w w1 : World} {st : List (List Int)} {v : Value} {xs : List Int} {f : Nat → Value} (hrow : w.rowIs S 43 18 f) (h17 : f 17 = .map none) (hby : ∀ i, i < st.length → ByRow S w (f i) (st.getD i []))
    (hv : ByRow S w v xs) (hlt : st.length < 16) (hw : w1.heap = w.heap) (ho : w1.os = w.os) (ht : w1.tape = w.tape) (hp : w1.output = w.output) :
    Few S ((w1.setCell ⟨S, st.length, none⟩ v).setCell ⟨S, 16, none⟩ (.int .i64 ((st.length : Int) + 1))) (st ++ [xs]) ∧ Below S w ((w1.setCell ⟨S, st.length, none⟩ v).setCell ⟨S, 16, none⟩ (.int .i64 ((st.length : Int) + 1))) := by
  have hrow1 : w1.rowIs S 43 18 f := hrow.of_block (by rw [hw])
  have hb0 : Below S w w1 := ⟨ho, ht, hp, by rw [hw]; exact Nat.le_refl _, fun k _ => by rw [hw]⟩
  have hb : Below S w ((w1.setCell ⟨S, st.length, none⟩ v).setCell ⟨S, 16, none⟩ (.int .i64 ((st.length : Int) + 1))) := (hb0.setCell (Nat.le_refl _) _).setCell (Nat.le_refl _) _
  refine ⟨⟨by simp; omega, _, (hrow1.set st.length v).set 16 _, by simp, ?_, ?_⟩, hb⟩
  · have e1 : ¬ (17 : Nat) = st.length := by omega
    simp [e1, h17]
  · intro i hi
    simp at hi
    have e1 : ¬ i = 16 := by omega
    by_cases e : i = st.length
    · subst e
      simp only [e1, if_false, if_true]
      have : (st ++ [xs]).getD st.length [] = xs := by simp [List.getD]
      rw [this]
      exact hv.below hb
    · simp only [e1, e, if_false]
      have : (st ++ [xs]).getD i [] = st.getD i [] := by
        have : i < st.length := by omega
        simp [List.getD, List.getElem?_append, this]
      rw [this]
      exact (hby i (by omega)).below hb

set_option maxHeartbeats 800000 in
theorem few_any (S : Nat) (w : World) (st : List (List Int)) (a : Option Addr) (n c : Nat) (xs : List Int) (h : Few S w st) (hst : ∀ y ∈ st, Okb y) (hv : ByRow S w (.slice a n c) xs) (hx : Okb xs) (hlt16 : st.length < 16) :
    Calls Try.prog 22 #[.pointer (some ⟨S, 0, none⟩), .slice a n c] w fun e w' => e = .returned (.bool (hasN st xs)) ∧ Few S w' (addN st xs) ∧ Below S w w' := by
  obtain ⟨h16, f, hrow, hf16, hf17, hby⟩ := h
  have hSlt := hrow.lt
  have c17 := hrow.cell (i := 17) (by omega)
  have c16 := hrow.cell (i := 16) (by omega)
  rw [hf17] at c17
  rw [hf16] at c16
  have fz := hrow.frozen
  have HR : Hid (w.rowIs S 43 18 f) := hrow
  have HF : Hid (f 16 = .int .i64 st.length ∧ f 17 = .map none) := ⟨hf16, hf17⟩
  clear hf16 hf17 hrow
  have hi16 : (st.length : Int) < 16 := by omega
  have hi16' : (st.length : Int) ≤ 16 := by omega
  have hi0 : (0 : Int) ≤ (st.length : Int) := by omega
  have qm : ∀ (w : World) (r : Option Nat), (binOp .neq 41 (.map r) (.map none)).run Try.prog w = .ok (.bool (!r.isNone)) w := fun w r => run_neq_map_nil w _ _ _ r Try.underlying41
  go_enter Try.func22, Try.ntmps22
  go_wp2
  go_quiet (fail)
  go_wp2
  go_loopw [43, 8] (fun i s wr => ∃ k : Nat, k ≤ st.length ∧ i = .int .i64 k ∧ NoneTo st xs k ∧ wr = w.drewN nq)
    (fun i _ _ => st.length - (intOf i).toNat)
  case atStart => exact ⟨0, Nat.zero_le _, rfl, fun j hj => by omega, rfl⟩
  case round =>
    obtain ⟨k, hk, rfl, hno, rfl⟩ := hrel
    by_cases hlt : k < st.length
    · have hlt' : (k : Int) < (st.length : Int) := by omega
      have h0 : (0 : Int) ≤ (k : Int) := by omega
      have ck := HR.out.cell (i := k) (by omega)
      have bk := (hby k hlt).below ((Below.refl S w).drew)
      have okk := hst _ (getD_mem hlt)
      obtain ⟨ak, nk, ck', ek⟩ : ∃ a n c, f k = .slice a n c := by
        rcases hby k hlt with ⟨e, _⟩ | ⟨b, _, e, _⟩
        · exact ⟨_, _, _, e⟩
        · exact ⟨_, _, _, e⟩
      rw [ek] at ck
      have hbk := hby k hlt
      rw [ek] at hbk
      have HB : Hid (ByRow S w (.slice ak nk ck') (st.getD k [])) := hbk
      have HE : Hid (f k = .slice ak nk ck') := ek
      clear hbk ek bk
      go_wp2_with fail
      refine (equal_any (HB.out.below (w' := w.drewN nq) ⟨rfl, rfl, rfl, Nat.le_refl _, fun _ _ => rfl⟩) (hv.below ⟨rfl, rfl, rfl, Nat.le_refl _, fun _ _ => rfl⟩) okk.2 hx.2).mono ?_
      rintro e w' ⟨rfl, rfl⟩
      by_cases he : st.getD k [] = xs
      · have hmem : xs ∈ st := by rw [← he]; exact getD_mem hlt
        rw [decide_eq_true he]
        have HH : Hid (xs ∈ st) := hmem
        clear he hmem
        go_wp2
        go_ret
        have hm := HH.out
        refine ⟨by rw [hasN_in hm]; rfl, ?_, ⟨rfl, rfl, rfl, Nat.le_refl _, fun _ _ => rfl⟩⟩
        rw [addN_in hm]
        exact ⟨h16, f, HR.out, HF.out.1, HF.out.2, fun i hi => (hby i hi).below ⟨rfl, rfl, rfl, Nat.le_refl _, fun _ _ => rfl⟩⟩
      · rw [decide_eq_false he]
        have HH : Hid (¬ st.getD k [] = xs) := he
        clear he
        go_wp2
        go_roundw
        case rel => exact ⟨k + 1, by omega, by go_num, noneTo_succ hno HH.out, by first | rfl | trivial⟩
        case measure => simp [intOf]; omega
    · have hkl : k = st.length := by omega
      subst hkl
      have hmem := noneTo_all hno
      have HH : Hid (¬ xs ∈ st) := hmem
      clear hmem hno
      have cl := HR.out.cell (i := st.length) (by omega)
      go_wp2
      go_region
      all_goals go_wp2
      go_ret
      have hm := HH.out
      have hfin := few_store (w1 := w.drewN (nq + 1)) HR.out HF.out.2 hby hv hlt16 rfl rfl rfl rfl
      refine ⟨by rw [hasN_new hm]; rfl, ?_, hfin.2⟩
      rw [addN_new hm]
      exact hfin.1

end Go.Proofs.Qxb6600256a
