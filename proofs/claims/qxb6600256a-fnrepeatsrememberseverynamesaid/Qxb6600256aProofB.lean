/-
  Seat b6600256a: FnRepeatsRemembersEveryName: the row.
-/
import Derived.Test.Qxb6600256aLawB
import Derived.Test.Qxb6600256aProofA
namespace Go.Proofs.Qxb6600256a
open Go.ChangeShapes Go.WideShapes Go.ChangeAt Go.RowKit Go.Deep

/-- What the walk asks of the byte slice that came in. -/
structure GivenB (w : World) (a : Option Addr) (n c : Nat) (ys : List Int) : Prop where
  len : n = ys.length
  le : n ≤ maxLen
  ok : ∀ z ∈ ys, 0 ≤ z ∧ z ≤ 255
  inB : InB w.heap.size w (.slice a n c) ys

theorem lawB_any {w : World} {a : Option Addr} {len cap : Nat} {A : Nat → Option Addr} {L C : Nat → Nat} {Z : Nat → List Int} {af : Option Addr} {nf cf : Nat} {ys : List Int} (h : Given w a len cap A L C Z) (hf : GivenB w af nf cf ys) :
    Calls Try.prog 6 #[.slice a len cap, .slice af nf cf] w fun e w' => e = .returned (.bool true) ∧ Below w.heap.size w w' := by
  have hfm := hf.le
  unfold maxLen at hfm
  rcases Nat.eq_zero_or_pos len with h0 | h0
  · subst h0
    exact lawB_zero a cap (fun e => (h.nil e).2) af nf cf ys w hf.len (by omega) hf.inB hf.ok
  · cases a with
    | none => have := (h.nil rfl).1; omega
    | some x =>
      obtain ⟨b, off, rfl, hc⟩ := h.plain h0
      have hl := namesOf_length len L Z
      have hle := h.le
      unfold maxLen at hle
      have := lawB_some b off cap (namesOf len L Z) af nf cf ys w A L C (by omega) (by omega) (by rw [hl]; exact hc) (by rw [hl]; exact h.lens) (by rw [hl]; exact h.inS) h.ok hf.len (by omega) hf.inB hf.ok
      rw [hl] at this
      exact this

set_option maxRecDepth 100000 in
theorem liftedB (os : Os) (started : os.Started) (H : Type) (enc : TypeId × Value → H) :
    ReturnsInHanded {} Try.checked os 6 .any (Rows.fnRepeatsRemembersEveryNameSpec.pre6 enc Try.prog Try.f6 Rows.fnRepeatsRemembersEveryNameRow.domain false) (Rows.fnRepeatsRemembersEveryNameSpec.post enc Try.prog Try.f6 false true false false) := by
  refine returnsInHanded_of_change (C := Try.checked) own started (by kernel_rfl) Try.func6
    (ChangeSpec.witness6 (enc := enc) (C := Try.checked) false ⟨#[], #[.slice none 0 0, .slice none 0 0], []⟩ 8 (by kernel_rfl) (by kernel_rfl) (by kernel_rfl) (by kernel_rfl)) ?_
  intro W base args ds gs before hval0 hW hcnd _
  have hval : ∀ (j : Nat) t v, Try.f6.params[j]? = some t → args[j]? = some v → Value.okWide Try.prog W .any base t v := hval0
  have hW' := hW
  obtain ⟨p, q, hA0, hV, rfl, hfz, hnd⟩ := hW
  have hA : DataW.TrodAll enc Try.prog W 0 (fun _ => true) true Try.f6.params.toList args.toList ds p := hA0
  rw [Try.params6] at hA hval
  obtain ⟨v0, vs0, d0, ds0, p0, q0, hargs, rfl, rfl, h0, r0⟩ := trodAll_cons hA
  obtain ⟨v1, vs1, d1, ds1, p1, q1, rfl, rfl, rfl, h1, r1⟩ := trodAll_cons r0
  obtain ⟨rfl, rfl, rfl⟩ := trodAll_nil r1
  obtain rfl : args = #[v0, v1] := by cases args; simp_all
  obtain ⟨rfl, rfl⟩ := trodVars_none hV
  obtain ⟨a0, len0, cap0, rfl⟩ := okWide_slice Try.underlying30 (hval 0 30 v0 rfl rfl)
  obtain ⟨a1, len1, cap1, rfl⟩ := okWide_slice Try.underlying22 (hval 1 22 v1 rfl rfl)
  have k0 := h0
  have lt0 : ∀ x ∈ p0, x.block < W.heap.size := by obtain ⟨m, hm⟩ := k0; exact DataW.trod_lt m _ _ _ hm
  have k1 := h1
  have lt1 : ∀ x ∈ p1, x.block < W.heap.size := by obtain ⟨m, hm⟩ := k1; exact DataW.trod_lt m _ _ _ hm
  obtain ⟨A, L, C, Z, hg⟩ : ∃ A L C Z, Given W a0 len0 cap0 A L C Z := by
    obtain ⟨fuel, hf⟩ := h0
    rcases open_int_rows Try.underlying30 Try.underlying22 Try.underlying5 cells22 cells5 hf with ⟨hcs, _⟩ | ⟨a, len, cap, A, L, C, Z, hcs, hb, hl, hm, _, hr⟩
    · simp [Value.cells] at hcs
      obtain ⟨rfl, rfl, rfl⟩ := hcs
      exact ⟨fun _ => none, fun _ => 0, fun _ => 0, fun _ => [], ⟨(fun _ => ⟨rfl, rfl⟩), by unfold maxLen; omega, (fun x hx => by cases hx)⟩⟩
    · simp [Value.cells] at hcs
      obtain ⟨rfl, rfl, rfl⟩ := hcs
      refine ⟨A, L, C, Z, ⟨(fun e => by cases e), by omega, fun x hx r hr' => ?_⟩⟩
      cases hx
      obtain ⟨h1, h2, h3, h4, h5, h6, h7⟩ := hr r (by omega)
      exact ⟨h1, h2, h3, h4, h5, h6, fun a' ha' => (h7 a' ha').2⟩
  obtain ⟨ys, hgb⟩ : ∃ ys, GivenB W a1 len1 cap1 ys := by
    obtain ⟨fuel, hf⟩ := h1
    rcases open_ints Try.underlying22 Try.underlying5 cells5 hf with ⟨hcs, _⟩ | ⟨x, l, c, zs, hcs, _, hl, hm, hz, _, hcell, hwz⟩
    · simp [Value.cells] at hcs
      obtain ⟨rfl, rfl, rfl⟩ := hcs
      exact ⟨[], ⟨rfl, by unfold maxLen; omega, (fun z hz => by simp at hz), .inl ⟨rfl, rfl⟩⟩⟩
    · simp [Value.cells] at hcs
      obtain ⟨rfl, rfl, rfl⟩ := hcs
      have hz' : zs.length = cap1 := by simpa using hz
      have hlen : (zs.take len1).length = len1 := by simp; omega
      refine ⟨zs.take len1, ⟨hlen.symm, by omega, (fun z hz => byte_bounds (hwz z (List.mem_of_mem_take hz))), .inr ⟨x, cap1, by rw [hlen], fun i hi => ?_⟩⟩⟩
      rw [hlen] at hi
      have hc := hcell i (by omega)
      have hb2 := World.block_lt_of_cell? _ _ hc
      have hxb2 : (x.add i).block = x.block := by unfold Addr.add; split <;> rfl
      rw [hxb2] at hb2
      refine ⟨hb2, ?_⟩
      rw [hc]
      have : (zs.take len1).getD i 0 = zs.getD i 0 := by simp [List.getD, hi]
      rw [this]
  clear hA0 hval0
  refine (lawB_any hg hgb).mono fun e W' ⟨he, bel⟩ => ?_
  subst he
  exact ⟨_, rfl, _, _, _, [], _, [], hW', trodAll_mk1 (shut_bool Try.underlying4 _), (trodAll_cons_mk (Below.trod laidOut (by kernel_rfl) (of_decide_eq_true (by kernel_rfl)) k0 bel lt0) (trodAll_cons_mk (Below.trod laidOut (by kernel_rfl) (of_decide_eq_true (by kernel_rfl)) k1 bel lt1) trodAll_mk0)), rfl, bel.frame _, fun h => by cases h⟩

theorem overB : Rows.fnRepeatsRemembersEveryNameRow.holds Try.pinned (OpenSpec.ofChange Rows.fnRepeatsRemembersEveryNameSpec) :=
  OpenClaim.holds_of_wide 6 Try.f6 rfl rfl rfl rfl rfl rfl rfl ⟨rfl, rfl, rfl, rfl, rfl⟩ rfl rfl rfl rfl rfl (by kernel_rfl) Try.func6 (by kernel_rfl)
    (of_decide_eq_true (by kernel_rfl)) (by unfold Func.isWrapper; first | (rw [if_pos (by decide +kernel)]; kernel_rfl) | (rw [if_neg (by decide +kernel)]; exact ⟨rfl, rfl⟩))
    (fun os started H enc _ => liftedB os started H enc)

/-- THE STATEMENT -/
theorem repeats_remembers_every_name : Rows.FnRepeatsRemembersEveryNameSaid := overB
end Go.Proofs.Qxb6600256a
