/-
  Seat b6600256a: FnRepeatsSaysWhetherSeenBefore: the row.
-/
import Derived.Test.Qxb6600256aLawA
import Derived.ProofKit
import Derived.OpenShut
import Derived.ShutString
import Derived.ChangeOld
import Derived.Below
import Derived.Deep.Matrix
namespace Go.Proofs.Qxb6600256a
open Go.ChangeShapes Go.WideShapes Go.ChangeAt Go.RowKit Go.Deep

theorem own : ownKnob Try.prog.godebug = none := by kernel_rfl
theorem laidOut : laidOutB Try.prog = true := by kernel_rfl
theorem cells22 : Try.prog.cellsOf 22 = 1 := by kernel_rfl
theorem cells5 : Try.prog.cellsOf 5 = 1 := by kernel_rfl

/-- What the walks ask of a script that came in. -/
structure Given (w : World) (a : Option Addr) (len cap : Nat) (A : Nat → Option Addr) (L C : Nat → Nat) (Z : Nat → List Int) : Prop where
  nil : a = none → len = 0 ∧ cap = 0
  le : len ≤ maxLen
  row : ∀ x, a = some x → ∀ r, r < len → w.cell? (x.add r) = some (.slice (A r) (L r) (C r)) ∧ L r ≤ C r ∧ C r ≤ maxLen ∧ (Z r).length = C r ∧ (∀ n ∈ Z r, (Lit.int .u8 n).wf = true) ∧ (A r = none → C r = 0) ∧
    ∀ a', A r = some a' → ∀ c, c < C r → w.cell? (a'.add c) = some (.int .u8 ((Z r).getD c 0))

/-- The names of a script that came in. -/
def namesOf (len : Nat) (L : Nat → Nat) (Z : Nat → List Int) : List (List Int) := (List.range len).map fun r => (Z r).take (L r)

theorem namesOf_length (len : Nat) (L : Nat → Nat) (Z : Nat → List Int) : (namesOf len L Z).length = len := by simp [namesOf]
theorem namesOf_get {len : Nat} {L : Nat → Nat} {Z : Nat → List Int} {r : Nat} (h : r < len) : (namesOf len L Z).getD r [] = (Z r).take (L r) := by simp [namesOf, h]

theorem byte_bounds {n : Int} (h : (Lit.int .u8 n).wf = true) : 0 ≤ n ∧ n ≤ 255 := by
  have := bounds_u8 h
  omega

theorem Given.inS {w : World} {x : Addr} {len cap : Nat} {A : Nat → Option Addr} {L C : Nat → Nat} {Z : Nat → List Int} (h : Given w (some x) len cap A L C Z) : InS w.heap.size w (.slice (some x) len cap) (namesOf len L Z) := by
  refine .inr ⟨x, cap, by rw [namesOf_length], fun r hr => ?_⟩
  rw [namesOf_length] at hr
  obtain ⟨h1, h2, h3, h4, h5, h6, h7⟩ := h.row x rfl r hr
  have hblk := World.block_lt_of_cell? _ _ h1
  have hxb : (x.add r).block = x.block := by unfold Addr.add; split <;> rfl
  rw [hxb] at hblk
  rw [namesOf_get hr]
  have hlen : ((Z r).take (L r)).length = L r := by simp; omega
  refine ⟨hblk, A r, L r, C r, h1, hlen.symm, ?_⟩
  cases hA : A r with
  | none =>
    have hC := h6 hA
    have hL0 : L r = 0 := by omega
    rw [hC, hL0]
    exact .inl ⟨rfl, by simp⟩
  | some a' =>
    refine .inr ⟨a', C r, by rw [hlen], fun i hi => ?_⟩
    rw [hlen] at hi
    have hc := h7 a' hA i (by omega)
    have hb2 := World.block_lt_of_cell? _ _ hc
    have hxb2 : (a'.add i).block = a'.block := by unfold Addr.add; split <;> rfl
    rw [hxb2] at hb2
    refine ⟨hb2, ?_⟩
    rw [hc]
    have : ((Z r).take (L r)).getD i 0 = (Z r).getD i 0 := by simp [List.getD, hi]
    rw [this]

theorem Given.ok {w : World} {x : Addr} {len cap : Nat} {A : Nat → Option Addr} {L C : Nat → Nat} {Z : Nat → List Int} (h : Given w (some x) len cap A L C Z) : ∀ y ∈ namesOf len L Z, ∀ n ∈ y, 0 ≤ n ∧ n ≤ 255 := by
  intro y hy n hn
  obtain ⟨r, hr, rfl⟩ := List.mem_map.1 hy
  obtain ⟨_, _, _, _, h5, _⟩ := h.row x rfl r (by simpa using hr)
  exact byte_bounds (h5 n (List.mem_of_mem_take hn))

theorem Given.plain {w : World} {x : Addr} {len cap : Nat} {A : Nat → Option Addr} {L C : Nat → Nat} {Z : Nat → List Int} (h : Given w (some x) len cap A L C Z) (hpos : 0 < len) : ∃ b off, x = ⟨b, off, none⟩ ∧ ∀ r, r < len → w.cell? ⟨b, off + r, none⟩ = some (.slice (A r) (L r) (C r)) := by
  obtain ⟨b, off, spot⟩ := x
  have h0 := (h.row _ rfl 0 hpos).1
  have hspot : spot = none := by simpa [Addr.add] using World.cell?_spot h0
  subst hspot
  exact ⟨b, off, rfl, fun r hr => by rw [← add_plain]; exact (h.row _ rfl r hr).1⟩

theorem Given.lens {w : World} {x : Addr} {len cap : Nat} {A : Nat → Option Addr} {L C : Nat → Nat} {Z : Nat → List Int} (h : Given w (some x) len cap A L C Z) : ∀ r, r < len → L r = ((namesOf len L Z).getD r []).length := by
  intro r hr
  obtain ⟨_, h2, _, h4, _⟩ := h.row x rfl r hr
  rw [namesOf_get hr]
  simp; omega

/-- THE WALK, whatever script came in. -/
theorem lawA_any {w : World} {a : Option Addr} {len cap : Nat} {A : Nat → Option Addr} {L C : Nat → Nat} {Z : Nat → List Int} (h : Given w a len cap A L C Z) :
    Calls Try.prog 5 #[.slice a len cap] w fun e w' => e = .returned (.bool true) ∧ Below w.heap.size w w' := by
  rcases Nat.eq_zero_or_pos len with h0 | h0
  · subst h0
    exact lawA_zero a cap (fun e => (h.nil e).2) w
  · cases a with
    | none => have := (h.nil rfl).1; omega
    | some x =>
      obtain ⟨b, off, rfl, hc⟩ := h.plain h0
      have hl := namesOf_length len L Z
      have hle := h.le
      unfold maxLen at hle
      have hm : ∀ r, r < len → L r ≤ 9223372036854775807 := fun r hr => by
        obtain ⟨_, h2, h3, _⟩ := h.row _ rfl r hr
        unfold maxLen at h3; omega
      have := lawA_some b off cap (namesOf len L Z) w A L C (by omega) (by omega) (by rw [hl]; exact hc) (by rw [hl]; exact h.lens) (by rw [hl]; exact hm) (by rw [hl]; exact h.inS) h.ok
      rw [hl] at this
      exact this

set_option maxRecDepth 100000 in
theorem liftedA (os : Os) (started : os.Started) (H : Type) (enc : TypeId × Value → H) :
    ReturnsInHanded {} Try.checked os 5 .any (Rows.fnRepeatsSaysWhetherSeenBeforeSpec.pre6 enc Try.prog Try.f5 Rows.fnRepeatsSaysWhetherSeenBeforeRow.domain false) (Rows.fnRepeatsSaysWhetherSeenBeforeSpec.post enc Try.prog Try.f5 false true false false) := by
  refine returnsInHanded_of_change (C := Try.checked) own started (by kernel_rfl) Try.func5
    (ChangeSpec.witness6 (enc := enc) (C := Try.checked) false ⟨#[], #[.slice none 0 0], []⟩ 8 (by kernel_rfl) (by kernel_rfl) (by kernel_rfl) (by kernel_rfl)) ?_
  intro W base args ds gs before hval0 hW hcnd _
  have hval : ∀ (j : Nat) t v, Try.f5.params[j]? = some t → args[j]? = some v → Value.okWide Try.prog W .any base t v := hval0
  have hW' := hW
  obtain ⟨p, q, hA0, hV, rfl, hfz, hnd⟩ := hW
  have hA : DataW.TrodAll enc Try.prog W 0 (fun _ => true) true Try.f5.params.toList args.toList ds p := hA0
  rw [Try.params5] at hA hval
  obtain ⟨v0, vs0, d0, ds0, p0, q0, hargs, rfl, rfl, h0, r0⟩ := trodAll_cons hA
  obtain ⟨rfl, rfl, rfl⟩ := trodAll_nil r0
  obtain rfl : args = #[v0] := by cases args; simp_all
  obtain ⟨rfl, rfl⟩ := trodVars_none hV
  obtain ⟨a0, len0, cap0, rfl⟩ := okWide_slice Try.underlying30 (hval 0 30 v0 rfl rfl)
  have k0 := h0
  have lt0 : ∀ x ∈ p0, x.block < W.heap.size := by obtain ⟨m, hm⟩ := k0; exact DataW.trod_lt m _ _ _ hm
  obtain ⟨A, L, C, Z, hg⟩ : ∃ A L C Z, Given W a0 len0 cap0 A L C Z := by
    obtain ⟨fuel, hf⟩ := h0
    rcases open_int_rows Try.underlying30 Try.underlying22 Try.underlying5 cells22 cells5 hf with ⟨hcs, _⟩ | ⟨a, len, cap, A, L, C, Z, hcs, hb, hl, hm, _, hr⟩
    · simp [Value.cells] at hcs
      obtain ⟨rfl, rfl, rfl⟩ := hcs
      exact ⟨fun _ => none, fun _ => 0, fun _ => 0, fun _ => [], ⟨(fun _ => ⟨rfl, rfl⟩), by unfold maxLen; omega, (fun x hx => by cases hx)⟩⟩
    · simp [Value.cells] at hcs
      obtain ⟨rfl, rfl, rfl⟩ := hcs
      refine ⟨A, L, C, Z, ⟨(fun e => by cases e), by omega, fun x hx r hr' => ?_⟩⟩
      cases hx
      obtain ⟨h1, h2, h3, h4, h5, h6, h7⟩ := hr r (by omega)
      exact ⟨h1, h2, h3, h4, h5, h6, fun a' ha' => (h7 a' ha').2⟩
  clear hA0 hval0
  refine (lawA_any hg).mono fun e W' ⟨he, bel⟩ => ?_
  subst he
  exact ⟨_, rfl, _, _, _, [], _, [], hW', trodAll_mk1 (shut_bool Try.underlying4 _), (trodAll_cons_mk (Below.trod laidOut (by kernel_rfl) (of_decide_eq_true (by kernel_rfl)) k0 bel lt0) trodAll_mk0), rfl, bel.frame _, fun h => by cases h⟩

theorem overA : Rows.fnRepeatsSaysWhetherSeenBeforeRow.holds Try.pinned (OpenSpec.ofChange Rows.fnRepeatsSaysWhetherSeenBeforeSpec) :=
  OpenClaim.holds_of_wide 5 Try.f5 rfl rfl rfl rfl rfl rfl rfl ⟨rfl, rfl, rfl, rfl, rfl⟩ rfl rfl rfl rfl rfl (by kernel_rfl) Try.func5 (by kernel_rfl)
    (of_decide_eq_true (by kernel_rfl)) (by unfold Func.isWrapper; first | (rw [if_pos (by decide +kernel)]; kernel_rfl) | (rw [if_neg (by decide +kernel)]; exact ⟨rfl, rfl⟩))
    (fun os started H enc _ => liftedA os started H enc)

/-- THE STATEMENT -/
theorem repeats_says_whether_seen_before : Rows.FnRepeatsSaysWhetherSeenBeforeSaid := overA
end Go.Proofs.Qxb6600256a
