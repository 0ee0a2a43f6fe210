/-
  Seat b6002351aF: FnDecodeRequestRoundTrip: the told card.
-/
import Derived.Test.Qxb6002351aFmtNum
import Derived.Test.Qxb6002351aFmtLawA
import Derived.ChangeMaps5
namespace Go.Proofs.Qxb6002351aFmt
open Go.ChangeMaps Go.ChangeShapes Go.WideShapes Go.ChangeAt Go.RowKit Go.Kit
open Go.Extern.Stop Go.Stop Go.Extern

theorem law3_any (F : Interp) (v0 v1 v2 v3 v4 v5 v6 v7 v8 v9 v10 v11 : Value) (W : World) (hF : F.answers W.tape)
    (t0 : ∃ l : List UInt8, v0 = .string (B l) ∧ l.length ≤ 9223372036854775807)
    (t1 : ∃ l : List UInt8, v1 = .string (B l) ∧ l.length ≤ 9223372036854775807)
    (t2 : ∃ l : List UInt8, v2 = .string (B l) ∧ l.length ≤ 9223372036854775807)
    (t3 : ∃ l : List UInt8, v3 = .string (B l) ∧ l.length ≤ 9223372036854775807)
    (t4 : ∃ l : List UInt8, v4 = .string (B l) ∧ l.length ≤ 9223372036854775807)
    (t5 : ∃ (a : Option Addr) (c : Nat) (xs : List UInt8), v5 = .slice a xs.length c ∧ xs.length ≤ maxLen ∧ Rd W.heap.size W (.slice a xs.length c) xs)
    (t6 : ∃ n, v6 = .int .u32 n ∧ (Lit.int .u32 n).wf = true)
    (t7 : ∃ n, v7 = .int .i64 n ∧ (Lit.int .i64 n).wf = true)
    (t8 : ∃ n, v8 = .int .u64 n ∧ (Lit.int .u64 n).wf = true)
    (t9 : ∃ n, v9 = .int .u64 n ∧ (Lit.int .u64 n).wf = true)
    (t10 : ∃ n, v10 = .int .u64 n ∧ (Lit.int .u64 n).wf = true)
    (t11 : ∃ (a : Option Addr) (c : Nat) (xs : List UInt8), v11 = .slice a xs.length c ∧ xs.length ≤ maxLen ∧ Rd W.heap.size W (.slice a xs.length c) xs) :
    Calls Tryf.prog 3 #[v0, v1, v2, v3, v4, v5, v6, v7, v8, v9, v10, v11] W fun e W' => e = .returned (.bool true) ∧ Below W.heap.size W W' := by
  obtain ⟨x0, rfl, l0⟩ := t0
  obtain ⟨x1, rfl, l1⟩ := t1
  obtain ⟨x2, rfl, l2⟩ := t2
  obtain ⟨x3, rfl, l3⟩ := t3
  obtain ⟨x4, rfl, l4⟩ := t4
  obtain ⟨av, cv, value, rfl, l5, hv⟩ := t5
  obtain ⟨n6, rfl, w6⟩ := t6
  obtain ⟨flags, rfl, b6⟩ := nat_u32 w6
  obtain ⟨n7, rfl, w7⟩ := t7
  obtain ⟨expires, b7, rfl⟩ := s64_of (i64_bounds w7)
  obtain ⟨n8, rfl, w8⟩ := t8
  obtain ⟨cas, rfl, b8⟩ := nat_u64 w8
  obtain ⟨n9, rfl, w9⟩ := t9
  obtain ⟨delta, rfl, b9⟩ := nat_u64 w9
  obtain ⟨n10, rfl, w10⟩ := t10
  obtain ⟨view, rfl, b10⟩ := nat_u64 w10
  obtain ⟨ad, cd, data, rfl, l11, hd⟩ := t11
  unfold maxLen at l5 l11
  by_cases hn : x0.length + x1.length + x2.length + x3.length + x4.length + value.length + data.length ≤ 1048576
  · exact lawA_main F x0 x1 x2 x3 x4 value data flags expires cas delta view (s64 expires) av ad cv cd W hF hn b6 b7 b8 b9 b10 rfl (conv_u64 expires b7) hv hd
  · exact lawA_big x0 x1 x2 x3 x4 av value.length cv flags (s64 expires) cas delta view ad data.length cd W l0 l1 l2 l3 l4 (by omega) (by omega) (by omega)

set_option maxRecDepth 100000 in
theorem lifted3 (os : Os) (started : os.Started) (H : Type) (enc : TypeId × Value → H) :
    ReturnsInTold none {} Tryf.checked os 3 .any Input.okWide ((OpenSpec.ofChange Rows.fnDecodeRequestRoundTripSpec).preRow enc Tryf.prog Tryf.f3 [] false []) (fun F => ((OpenSpec.ofChange Rows.fnDecodeRequestRoundTripSpec).at F).post enc Tryf.prog Tryf.f3 false true false false) (aloneAtReturn Tryf.prog) nothingAlways := by
  refine returnsInTold_of_row (C := Tryf.checked) (s := OpenSpec.ofChange Rows.fnDecodeRequestRoundTripSpec) (by kernel_rfl) own started (by kernel_rfl) Tryf.func3
    (OpenSpec.witness_stopped (enc := enc) (C := Tryf.checked) false ⟨#[], #[.string ⟨#[]⟩, .string ⟨#[]⟩, .string ⟨#[]⟩, .string ⟨#[]⟩, .string ⟨#[]⟩, .slice none 0 0, .int .u32 0, .int .i64 0, .int .u64 0, .int .u64 0, .int .u64 0, .slice none 0 0], []⟩ 8 (by kernel_rfl) (by kernel_rfl) (by kernel_rfl) (by kernel_rfl)) ?_
  intro F W base args ds gs before _ hF hval0 hW _ _ _ _ _
  have hval : ∀ (j : Nat) t v, Tryf.f3.params[j]? = some t → args[j]? = some v → Value.okWide Tryf.prog W .any base t v := hval0
  have hW' := hW
  obtain ⟨p, q, hA0, hV, rfl, _, _⟩ := hW
  have hA : DataW.TrodAll enc Tryf.prog W 0 (fun _ => true) true Tryf.f3.params.toList args.toList ds p := hA0
  rw [Tryf.params3] at hA hval
  obtain ⟨v0, vs0, e0, ds0, p0, q0, hargs, rfl, rfl, h0, r0⟩ := trodAll_cons hA
  obtain ⟨v1, vs1, e1, ds1, p1, q1, rfl, rfl, rfl, h1, r1⟩ := trodAll_cons r0
  obtain ⟨v2, vs2, e2, ds2, p2, q2, rfl, rfl, rfl, h2, r2⟩ := trodAll_cons r1
  obtain ⟨v3, vs3, e3, ds3, p3, q3, rfl, rfl, rfl, h3, r3⟩ := trodAll_cons r2
  obtain ⟨v4, vs4, e4, ds4, p4, q4, rfl, rfl, rfl, h4, r4⟩ := trodAll_cons r3
  obtain ⟨v5, vs5, e5, ds5, p5, q5, rfl, rfl, rfl, h5, r5⟩ := trodAll_cons r4
  obtain ⟨v6, vs6, e6, ds6, p6, q6, rfl, rfl, rfl, h6, r6⟩ := trodAll_cons r5
  obtain ⟨v7, vs7, e7, ds7, p7, q7, rfl, rfl, rfl, h7, r7⟩ := trodAll_cons r6
  obtain ⟨v8, vs8, e8, ds8, p8, q8, rfl, rfl, rfl, h8, r8⟩ := trodAll_cons r7
  obtain ⟨v9, vs9, e9, ds9, p9, q9, rfl, rfl, rfl, h9, r9⟩ := trodAll_cons r8
  obtain ⟨v10, vs10, e10, ds10, p10, q10, rfl, rfl, rfl, h10, r10⟩ := trodAll_cons r9
  obtain ⟨v11, vs11, e11, ds11, p11, q11, rfl, rfl, rfl, h11, r11⟩ := trodAll_cons r10
  obtain ⟨rfl, rfl, rfl⟩ := trodAll_nil r11
  obtain rfl : args = #[v0, v1, v2, v3, v4, v5, v6, v7, v8, v9, v10, v11] := by cases args; simp_all
  obtain ⟨rfl, rfl⟩ := trodVars_none hV
  have lt0 : ∀ x ∈ p0, x.block < W.heap.size := by obtain ⟨m, hm⟩ := h0; exact DataW.trod_lt m _ _ _ hm
  have lt1 : ∀ x ∈ p1, x.block < W.heap.size := by obtain ⟨m, hm⟩ := h1; exact DataW.trod_lt m _ _ _ hm
  have lt2 : ∀ x ∈ p2, x.block < W.heap.size := by obtain ⟨m, hm⟩ := h2; exact DataW.trod_lt m _ _ _ hm
  have lt3 : ∀ x ∈ p3, x.block < W.heap.size := by obtain ⟨m, hm⟩ := h3; exact DataW.trod_lt m _ _ _ hm
  have lt4 : ∀ x ∈ p4, x.block < W.heap.size := by obtain ⟨m, hm⟩ := h4; exact DataW.trod_lt m _ _ _ hm
  have lt5 : ∀ x ∈ p5, x.block < W.heap.size := by obtain ⟨m, hm⟩ := h5; exact DataW.trod_lt m _ _ _ hm
  have lt6 : ∀ x ∈ p6, x.block < W.heap.size := by obtain ⟨m, hm⟩ := h6; exact DataW.trod_lt m _ _ _ hm
  have lt7 : ∀ x ∈ p7, x.block < W.heap.size := by obtain ⟨m, hm⟩ := h7; exact DataW.trod_lt m _ _ _ hm
  have lt8 : ∀ x ∈ p8, x.block < W.heap.size := by obtain ⟨m, hm⟩ := h8; exact DataW.trod_lt m _ _ _ hm
  have lt9 : ∀ x ∈ p9, x.block < W.heap.size := by obtain ⟨m, hm⟩ := h9; exact DataW.trod_lt m _ _ _ hm
  have lt10 : ∀ x ∈ p10, x.block < W.heap.size := by obtain ⟨m, hm⟩ := h10; exact DataW.trod_lt m _ _ _ hm
  have lt11 : ∀ x ∈ p11, x.block < W.heap.size := by obtain ⟨m, hm⟩ := h11; exact DataW.trod_lt m _ _ _ hm
  clear hA0 hval0
  have t0 : ∃ l : List UInt8, v0 = .string (B l) ∧ l.length ≤ 9223372036854775807 := by
    obtain ⟨s, e, _, _, hs⟩ := open_string Tryf.underlying9 (hval 0 9 v0 rfl rfl) h0
    obtain ⟨l, hl, hll⟩ := str_B s
    exact ⟨l, by rw [e, hl], by rw [hll]; unfold maxLen at hs; omega⟩
  have t1 : ∃ l : List UInt8, v1 = .string (B l) ∧ l.length ≤ 9223372036854775807 := by
    obtain ⟨s, e, _, _, hs⟩ := open_string Tryf.underlying9 (hval 1 9 v1 rfl rfl) h1
    obtain ⟨l, hl, hll⟩ := str_B s
    exact ⟨l, by rw [e, hl], by rw [hll]; unfold maxLen at hs; omega⟩
  have t2 : ∃ l : List UInt8, v2 = .string (B l) ∧ l.length ≤ 9223372036854775807 := by
    obtain ⟨s, e, _, _, hs⟩ := open_string Tryf.underlying9 (hval 2 9 v2 rfl rfl) h2
    obtain ⟨l, hl, hll⟩ := str_B s
    exact ⟨l, by rw [e, hl], by rw [hll]; unfold maxLen at hs; omega⟩
  have t3 : ∃ l : List UInt8, v3 = .string (B l) ∧ l.length ≤ 9223372036854775807 := by
    obtain ⟨s, e, _, _, hs⟩ := open_string Tryf.underlying9 (hval 3 9 v3 rfl rfl) h3
    obtain ⟨l, hl, hll⟩ := str_B s
    exact ⟨l, by rw [e, hl], by rw [hll]; unfold maxLen at hs; omega⟩
  have t4 : ∃ l : List UInt8, v4 = .string (B l) ∧ l.length ≤ 9223372036854775807 := by
    obtain ⟨s, e, _, _, hs⟩ := open_string Tryf.underlying9 (hval 4 9 v4 rfl rfl) h4
    obtain ⟨l, hl, hll⟩ := str_B s
    exact ⟨l, by rw [e, hl], by rw [hll]; unfold maxLen at hs; omega⟩
  have t5 := open_bytes (hval 5 22 v5 rfl rfl) h5
  have t6 : ∃ n, v6 = .int .u32 n ∧ (Lit.int .u32 n).wf = true := by
    obtain ⟨n, e, _, _, hw⟩ := open_int Tryf.underlying23 (hval 6 23 v6 rfl rfl) h6
    exact ⟨n, e, hw⟩
  have t7 : ∃ n, v7 = .int .i64 n ∧ (Lit.int .i64 n).wf = true := by
    obtain ⟨n, e, _, _, hw⟩ := open_int Tryf.underlying2 (hval 7 2 v7 rfl rfl) h7
    exact ⟨n, e, hw⟩
  have t8 : ∃ n, v8 = .int .u64 n ∧ (Lit.int .u64 n).wf = true := by
    obtain ⟨n, e, _, _, hw⟩ := open_int Tryf.underlying24 (hval 8 24 v8 rfl rfl) h8
    exact ⟨n, e, hw⟩
  have t9 : ∃ n, v9 = .int .u64 n ∧ (Lit.int .u64 n).wf = true := by
    obtain ⟨n, e, _, _, hw⟩ := open_int Tryf.underlying24 (hval 9 24 v9 rfl rfl) h9
    exact ⟨n, e, hw⟩
  have t10 : ∃ n, v10 = .int .u64 n ∧ (Lit.int .u64 n).wf = true := by
    obtain ⟨n, e, _, _, hw⟩ := open_int Tryf.underlying24 (hval 10 24 v10 rfl rfl) h10
    exact ⟨n, e, hw⟩
  have t11 := open_bytes (hval 11 22 v11 rfl rfl) h11
  clear hval
  refine (law3_any F.told v0 v1 v2 v3 v4 v5 v6 v7 v8 v9 v10 v11 W hF t0 t1 t2 t3 t4 t5 t6 t7 t8 t9 t10 t11).mono fun e W' ⟨he, bel⟩ => ?_
  subst he
  exact ⟨_, rfl, _, _, _, [], _, [], hW', trodAll_mk1 (shut_bool Tryf.underlying4 _), (trodAll_cons_mk (Below.trod laidOut (by kernel_rfl) (of_decide_eq_true (by kernel_rfl)) h0 bel lt0) (trodAll_cons_mk (Below.trod laidOut (by kernel_rfl) (of_decide_eq_true (by kernel_rfl)) h1 bel lt1) (trodAll_cons_mk (Below.trod laidOut (by kernel_rfl) (of_decide_eq_true (by kernel_rfl)) h2 bel lt2) (trodAll_cons_mk (Below.trod laidOut (by kernel_rfl) (of_decide_eq_true (by kernel_rfl)) h3 bel lt3) (trodAll_cons_mk (Below.trod laidOut (by kernel_rfl) (of_decide_eq_true (by kernel_rfl)) h4 bel lt4) (trodAll_cons_mk (Below.trod laidOut (by kernel_rfl) (of_decide_eq_true (by kernel_rfl)) h5 bel lt5) (trodAll_cons_mk (Below.trod laidOut (by kernel_rfl) (of_decide_eq_true (by kernel_rfl)) h6 bel lt6) (trodAll_cons_mk (Below.trod laidOut (by kernel_rfl) (of_decide_eq_true (by kernel_rfl)) h7 bel lt7) (trodAll_cons_mk (Below.trod laidOut (by kernel_rfl) (of_decide_eq_true (by kernel_rfl)) h8 bel lt8) (trodAll_cons_mk (Below.trod laidOut (by kernel_rfl) (of_decide_eq_true (by kernel_rfl)) h9 bel lt9) (trodAll_cons_mk (Below.trod laidOut (by kernel_rfl) (of_decide_eq_true (by kernel_rfl)) h10 bel lt10) (trodAll_cons_mk (Below.trod laidOut (by kernel_rfl) (of_decide_eq_true (by kernel_rfl)) h11 bel lt11) trodAll_mk0)))))))))))), rfl, bel.frame _, fun h => by cases h⟩

/-- THE STATEMENT -/
theorem round_trip : Rows.FnDecodeRequestRoundTripToldSaid :=
  Claim7.holds_of_told_any 3 Tryf.f3 "fmt.errorf" [] [] _ _ _ (by kernel_rfl) rfl rfl rfl laidOut (by kernel_rfl) rfl ⟨rfl, rfl, rfl, rfl, rfl, rfl, rfl⟩ rfl rfl (by kernel_rfl) (by kernel_rfl) Tryf.func3 (by kernel_rfl)
    (of_decide_eq_true (by kernel_rfl)) (of_decide_eq_true (by kernel_rfl)) stops.symm rfl stopKnobs.symm (by kernel_rfl)
    (by kernel_rfl) (by kernel_rfl) (by kernel_rfl) (by kernel_rfl) (by kernel_rfl) (by kernel_rfl) (by kernel_rfl) (by kernel_rfl) (by kernel_rfl) rfl (by kernel_rfl) rfl rfl
    rfl rfl
    rfl (by kernel_rfl) (by kernel_rfl) (by kernel_rfl) (by decide) (by kernel_rfl)
    (OpenClaim.moreEntering_of (by kernel_rfl) (by kernel_rfl) (by kernel_rfl) (by kernel_rfl) (by kernel_rfl) (by kernel_rfl) (by kernel_rfl) (by kernel_rfl) (by kernel_rfl) (by kernel_rfl))
    ⟨_, WideRow.started_initial, quiet _⟩
    (fun os started _ H enc _ => lifted3 os started H enc)

end Go.Proofs.Qxb6002351aFmt
