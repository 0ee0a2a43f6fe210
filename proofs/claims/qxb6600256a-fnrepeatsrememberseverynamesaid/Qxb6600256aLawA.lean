/-
  Seat b6600256a: the law FnRepeatsSaysWhetherSeenBefore: the walk.
-/
import Derived.Test.Qxb6600256aClone
namespace Go.Proofs.Qxb6600256a
open Go.RowKit Go.Maps Go.WideMaps

/-- The names known behind the first k of the script. -/
def seen (xss : List (List Int)) (k : Nat) : List (List Int) := (xss.take k).foldl addN []

theorem seen_zero (xss : List (List Int)) : seen xss 0 = [] := by simp [seen]
theorem seen_succ {xss : List (List Int)} {k : Nat} (h : k < xss.length) : seen xss (k + 1) = addN (seen xss k) (xss.getD k []) := by
  unfold seen
  rw [List.take_succ_eq_append_getElem h, List.foldl_append]
  simp [List.getD, h]

theorem mem_addN (st : List (List Int)) (x y : List Int) : y ∈ addN st x ↔ y ∈ st ∨ y = x := by
  unfold addN
  split
  · constructor
    · exact .inl
    · rintro (h | rfl)
      · exact h
      · assumption
  · simp

theorem mem_fold (l : List (List Int)) : ∀ (st : List (List Int)) (y : List Int), y ∈ l.foldl addN st ↔ y ∈ st ∨ y ∈ l := by
  induction l with
  | nil => intro st y; simp
  | cons x r ih =>
    intro st y
    rw [List.foldl_cons, ih, mem_addN, List.mem_cons]
    constructor
    · rintro ((h | h) | h)
      · exact .inl h
      · exact .inr (.inl h)
      · exact .inr (.inr h)
    · rintro (h | h | h)
      · exact .inl (.inl h)
      · exact .inl (.inr h)
      · exact .inr h

theorem mem_seen (xss : List (List Int)) (k : Nat) (y : List Int) : y ∈ seen xss k ↔ y ∈ xss.take k := by
  unfold seen; rw [mem_fold]; simp

theorem addN_length (st : List (List Int)) (x : List Int) : (addN st x).length ≤ st.length + 1 := by
  unfold addN; split <;> simp

theorem fold_length (l : List (List Int)) : ∀ st : List (List Int), (l.foldl addN st).length ≤ st.length + l.length := by
  induction l with
  | nil => intro st; simp
  | cons x r ih => intro st; rw [List.foldl_cons]; have := ih (addN st x); have := addN_length st x; simp; omega

theorem seen_length (xss : List (List Int)) (k : Nat) : (seen xss k).length ≤ k := by
  have := fold_length (xss.take k) []
  unfold seen
  have h2 := List.length_take_le k xss
  simp at this ⊢
  omega

theorem seen_ok {xss : List (List Int)} (h : ∀ y ∈ xss, Okb y) (k : Nat) : ∀ y ∈ seen xss k, Okb y := by
  intro y hy
  exact h y (List.mem_of_mem_take ((mem_seen xss k y).1 hy))

/-- A name that came earlier. -/
theorem seen_old {xss : List (List Int)} {j k : Nat} (hj : j < k) (hk : k < xss.length) (e : xss.getD j [] = xss.getD k []) : hasN (seen xss k) (xss.getD k []) = true := by
  apply hasN_in
  rw [mem_seen, ← e]
  have : j < xss.length := by omega
  rw [List.mem_iff_getElem]
  exact ⟨j, by simp; omega, by simp [List.getD, this]⟩

/-- A name that came not. -/
theorem seen_new {xss : List (List Int)} {k : Nat} (hk : k < xss.length) (h : NoneTo xss (xss.getD k []) k) : hasN (seen xss k) (xss.getD k []) = false := by
  apply hasN_new
  rw [mem_seen]
  intro hm
  obtain ⟨j, hj, e⟩ := List.mem_iff_getElem.1 hm
  have hj' : j < k := by simp at hj; omega
  have hjl : j < xss.length := by omega
  apply h j hj'
  rw [← e]
  simp [List.getD, hjl]

set_option maxHeartbeats 1600000 in
theorem lawA_some (b off cap : Nat) (xss : List (List Int)) (w : World) (A : Nat → Option Addr) (L C : Nat → Nat) (hn : xss.length ≤ 9223372036854775807) (hpos : 0 < xss.length)
    (hc : ∀ r, r < xss.length → w.cell? ⟨b, off + r, none⟩ = some (.slice (A r) (L r) (C r))) (hL : ∀ r, r < xss.length → L r = (xss.getD r []).length)
    (hLb : ∀ r, r < xss.length → L r ≤ 9223372036854775807)
    (hin : InS w.heap.size w (.slice (some ⟨b, off, none⟩) xss.length cap) xss) (hok : ∀ y ∈ xss, ∀ n ∈ y, 0 ≤ n ∧ n ≤ 255) :
    Calls Try.prog 5 #[.slice (some ⟨b, off, none⟩) xss.length cap] w fun e w' => e = .returned (.bool true) ∧ Below w.heap.size w w' := by
  obtain ⟨n, hnn⟩ : ∃ n, n = xss.length := ⟨_, rfl⟩
  rw [← hnn] at hn hpos hc hL hLb hin ⊢
  have HN : Hid (n = xss.length) := hnn
  have HIN : Hid (InS w.heap.size w (.slice (some ⟨b, off, none⟩) n cap) xss) := hin
  have HL : Hid (∀ r, r < n → L r = (xss.getD r []).length) := hL
  clear hnn hin hL
  go_enter Try.func5, Try.ntmps5
  go_wp2_with fail
  refine (zzb13_some b off n cap A L C w hn hc).mono ?_
  rintro e w1 ⟨hw, h13⟩
  obtain rfl : w = w1 := hw.symm
  rcases h13 with rfl | ⟨rfl, hsm, hLs⟩
  · go_wp2
    go_ret
    exact ⟨rfl, Below.refl _ _⟩
  by_cases h4096 : n ≤ 4096
  rotate_left
  · have h4 : (4096 : Int) < (n : Int) := by omega
    go_wp2
    go_ret
    exact ⟨rfl, Below.refl _ _⟩
  go_wp2
  go_loop [3, 4] (fun t i => ∃ k : Nat, ∃ q : Int, k ≤ n ∧ i = .int .i64 k ∧ t = .int .i64 q ∧ 0 ≤ q ∧ q ≤ 1048576) (fun _ i => n - (intOf i).toNat)
  case atStart => exact ⟨0, _, Nat.zero_le _, rfl, rfl, by omega, by omega⟩
  case round =>
    obtain ⟨k, q, hk, rfl, rfl, hq0, hq1⟩ := hrel
    by_cases hlt : k < n
    · have hck := hc k hlt
      have hl := hLs k hlt
      go_wp2
      · go_ret
        exact ⟨rfl, Below.refl _ _⟩
      · go_round
        case rel => exact ⟨k + 1, _, by omega, by go_num, rfl, by omega, by omega⟩
        case measure => simp [intOf]; omega
    · have hkn : k = n := by omega
      subst hkn
      have HO : Hid (∀ y ∈ xss, Okb y) := by
        intro y hy
        refine ⟨?_, hok y hy⟩
        obtain ⟨r, hr, e⟩ := List.mem_iff_getElem.1 hy
        have h1 := hLs r (by rw [HN.out]; exact hr)
        rw [HL.out r (by rw [HN.out]; exact hr)] at h1
        simp [List.getD, hr, e] at h1
        omega
      clear hok hc hLs hLb
      go_wp2_with fail
      refine (cloneAll_any HIN.out (by rw [← HN.out]; exact hsm) (fun y hy => (HO.out y hy).1)).mono ?_
      rintro e w1 ⟨v1, rfl, hown, hbel1⟩
      obtain ⟨bs, hbs, hv1, hcs⟩ : ∃ b, b < w1.heap.size ∧ v1 = .slice (some ⟨b, 0, none⟩) k k ∧ ∀ r, r < k → ∃ a n c, w1.cell? ⟨b, r, none⟩ = some (.slice a n c) ∧ ByRow w1.heap.size w1 (.slice a n c) (xss.getD r []) := by
        rcases hown with ⟨_, e⟩ | ⟨b, h1, h2, h3⟩
        · have hz := HN.out; rw [e] at hz; simp at hz; omega
        · rw [← HN.out] at h2 h3
          exact ⟨b, h1, h2, h3⟩
      rw [hv1]
      clear hown hv1 HIN
      go_wp2_with fail
      refine (new_any w1).mono ?_
      rintro e w2 ⟨rfl, hnm, hbel2, hlt2⟩
      have HB2 : Hid (Below w1.heap.size w1 w2) := hbel2
      have HB1 : Hid (Below w.heap.size w w1) := hbel1
      have HNM : Hid (Names w1.heap.size w2 []) := hnm
      have hsz1 := hbel1.size
      clear hnm hbel2 hbel1
      go_wp2_with fail
      go_loopw [6] (fun i wr => ∃ j : Nat, j ≤ k ∧ i = .int .i64 j ∧ Names w1.heap.size wr (seen xss j) ∧ Below w1.heap.size w1 wr) (fun i _ => k - (intOf i).toNat)
      case atStart => exact ⟨0, Nat.zero_le _, rfl, by rw [seen_zero]; exact HNM.out, HB2.out⟩
      case round =>
        obtain ⟨j, hj, rfl, hnm, hbw⟩ := hrel
        by_cases hjk : j < k
        · obtain ⟨aj, nj, cj, cellj, rowj⟩ := hcs j hjk
          have cellj' : wr.cell? ⟨bs, j, none⟩ = some (.slice aj nj cj) := (hbw.cell (by exact hbs)).trans cellj
          have rowj' := rowj.below hbw
          clear cellj rowj
          have HNM2 : Hid (Names w1.heap.size wr (seen xss j)) := hnm
          have HBW : Hid (Below w1.heap.size w1 wr) := hbw
          have HROW : Hid (ByRow w1.heap.size wr (.slice aj nj cj) (xss.getD j [])) := rowj'
          clear hnm hbw rowj'
          obtain ⟨wo, rfl⟩ : ∃ wo : World, wo = wr := ⟨_, rfl⟩
          go_wp2_with fail
          go_loopw [7, 8] (fun q i wi => ∃ m : Nat, m ≤ j ∧ i = .int .i64 m ∧ q = .bool false ∧ NoneTo xss (xss.getD j []) m ∧ ∃ d, wi = wo.drewN d) (fun _ i _ => j - (intOf i).toNat)
          case atStart => exact ⟨0, Nat.zero_le _, rfl, rfl, fun r hr => by omega, 0, rfl⟩
          case round =>
            obtain ⟨m, hm, rfl, rfl, hno, d, hwi⟩ := hrel
            have cellj2 : wr.cell? ⟨bs, j, none⟩ = some (.slice aj nj cj) := by rw [hwi]; exact cellj'
            have HWI : Hid (wr = wo.drewN d) := hwi
            clear hwi
            have hlj : j < xss.length := by rw [← HN.out]; exact hjk
            have hokj := HO.out _ (getD_mem hlj)
            have hsl := seen_length xss j
            have HREP : Hid (∀ q : Nat, Calls Try.prog 17 #[.pointer (some ⟨w1.heap.size, 0, none⟩), .slice aj nj cj] (wr.drewN q) fun e w' => e = .returned (.bool (hasN (seen xss j) (xss.getD j []))) ∧ Names w1.heap.size w' (addN (seen xss j) (xss.getD j [])) ∧ Below w1.heap.size (wr.drewN q) w') := by
              intro q
              have hw : (wr.drewN q) = wo.drewN (d + q) := by rw [HWI.out, World.drewN_drewN]
              rw [hw]
              have hn0 : Names w1.heap.size (wo.drewN (d + q)) (seen xss j) := by
                rcases HNM2.out with ⟨h16, f, hr, h1, h2, h3⟩ | ⟨f, M, hr, h1, h2, h3⟩
                · exact .inl ⟨h16, f, hr, h1, h2, fun i hi => (h3 i hi).below ⟨rfl, rfl, rfl, Nat.le_refl _, fun _ _ => rfl⟩⟩
                · exact .inr ⟨f, M, hr, h1, h2, h3⟩
              exact zzrepeats_any hn0 (seen_ok HO.out j) (HROW.out.below ⟨rfl, rfl, rfl, Nat.le_refl _, fun _ _ => rfl⟩) hokj (by omega)
            have HBW2 : Hid (∀ q : Nat, Below w1.heap.size w1 (wr.drewN q)) := fun q => by
              rw [HWI.out, World.drewN_drewN]
              exact HBW.out.trans ⟨rfl, rfl, rfl, Nat.le_refl _, fun _ _ => rfl⟩
            by_cases hmj : m < j
            · obtain ⟨am, nm, cm, cellm, rowm⟩ := hcs m (by omega)
              have cellm' : wr.cell? ⟨bs, m, none⟩ = some (.slice am nm cm) := by rw [HWI.out]; exact (HBW.out.cell (by exact hbs)).trans cellm
              have HROWm : Hid (ByRow w1.heap.size wo (.slice am nm cm) (xss.getD m [])) := rowm.below HBW.out
              clear cellm rowm
              have hokm : (xss.getD m []).length ≤ 140737488351232 := (HO.out _ (getD_mem (by rw [← HN.out]; omega))).1
              have i1 : (m : Int) < (k : Int) := by omega
              have i2 : (j : Int) < (k : Int) := by omega
              have i3 : (m : Int) < (j : Int) := by omega
              have HSH : Hid (∀ q : Nat, Calls Try.prog 16 #[.slice am nm cm, .slice aj nj cj] (wr.drewN q) fun e w' => e = .returned (.bool (decide (xss.getD m [] = xss.getD j []))) ∧ ∃ m, w' = (wr.drewN q).drewN m) := fun q => by
                rw [HWI.out, World.drewN_drewN]
                exact same_any (HROWm.out.below ⟨rfl, rfl, rfl, Nat.le_refl _, fun _ _ => rfl⟩) (HROW.out.below ⟨rfl, rfl, rfl, Nat.le_refl _, fun _ _ => rfl⟩) hokm
              clear hokm
              by_cases heq : xss.getD m [] = xss.getD j []
              · have hh : hasN (seen xss j) (xss.getD j []) = true := seen_old hmj hlj heq
                rw [decide_eq_true heq] at HSH
                rw [hh] at HREP
                clear heq hno hh hokj hsl cellj'
                go_wp2
                go_quiet ((go_at_call 16; exact Calls.quiet_of (HSH.out _)))
                go_wp2_with fail
                refine (HREP.out nq).mono ?_
                rintro e w4 ⟨rfl, hnm4, hb4⟩
                have HN4 : Hid (Names w1.heap.size w4 (seen xss (j + 1)) ∧ Below w1.heap.size w1 w4) := ⟨by rw [seen_succ hlj]; exact hnm4, (HBW2.out nq).trans hb4⟩
                clear hnm4 hb4
                go_wp2
                go_roundw
                case rel => exact ⟨j + 1, by omega, by go_num, HN4.out.1, HN4.out.2⟩
                case measure => simp [intOf]; omega
              · rw [decide_eq_false heq] at HSH
                have HNE : Hid (¬ xss.getD m [] = xss.getD j []) := heq
                clear heq hokj hsl cellj'
                go_wp2
                go_quiet ((go_at_call 16; exact Calls.quiet_of (HSH.out _)))
                go_wp2_with fail
                go_roundw
                case rel => exact ⟨m + 1, by omega, by go_num, rfl, noneTo_succ hno HNE.out, d + nq, by rw [HWI.out, World.drewN_drewN]⟩
                case measure => simp [intOf]; omega
            · have hmj2 : m = j := by omega
              subst hmj2
              have hh := seen_new hlj hno
              rw [hh] at HREP
              clear hno hh hokj hsl cellj'
              have h0 := HREP.out 0
              rw [World.drewN_zero] at h0
              have HREP0 : Hid (Calls Try.prog 17 #[.pointer (some ⟨w1.heap.size, 0, none⟩), .slice aj nj cj] wr fun e w' => e = .returned (.bool false) ∧ Names w1.heap.size w' (addN (seen xss m) (xss.getD m [])) ∧ Below w1.heap.size wr w') := h0
              clear h0
              have hbw0 := HBW2.out 0
              rw [World.drewN_zero] at hbw0
              go_wp2_with fail
              refine HREP0.out.mono ?_
              rintro e w4 ⟨rfl, hnm4, hb4⟩
              have HN4 : Hid (Names w1.heap.size w4 (seen xss (m + 1)) ∧ Below w1.heap.size w1 w4) := ⟨by rw [seen_succ hlj]; exact hnm4, hbw0.trans hb4⟩
              clear hnm4 hb4
              go_wp2
              go_roundw
              case rel => exact ⟨m + 1, by omega, by go_num, HN4.out.1, HN4.out.2⟩
              case measure => simp [intOf]; omega
        · have hjk2 : j = k := by omega
          subst hjk2
          go_wp2
          go_ret
          exact ⟨rfl, HB1.out.trans (hbw.mono hsz1)⟩

theorem zzb13_empty (a : Option Addr) (cap : Nat) (h : a = none → cap = 0) (w : World) : Calls Try.prog 13 #[.slice a 0 cap] w fun e w' => e = .returned (.bool true) ∧ w' = w := by
  cases a with
  | none => rw [h rfl]; exact zzb13_nil w
  | some x => exact zzb13_zero x cap w

theorem cloneAll_zero (a : Option Addr) (cap : Nat) (h : a = none → cap = 0) (w : World) : Calls Try.prog 14 #[.slice a 0 cap] w fun e w' => ∃ a', e = .returned (.slice a' 0 0) ∧ Below w.heap.size w w' := by
  cases a with
  | none =>
    rw [h rfl]
    refine (cloneAll_nil w).mono ?_
    rintro e w' ⟨rfl, rfl⟩
    exact ⟨_, rfl, Below.refl _ _⟩
  | some x =>
    refine (cloneAll_empty x cap w).mono ?_
    rintro e w' ⟨rfl, rfl⟩
    exact ⟨_, rfl, (Below.refl _ _).alloc (Nat.le_refl _) _⟩

set_option maxHeartbeats 800000 in
theorem lawA_zero (a : Option Addr) (cap : Nat) (h : a = none → cap = 0) (w : World) :
    Calls Try.prog 5 #[.slice a 0 cap] w fun e w' => e = .returned (.bool true) ∧ Below w.heap.size w w' := by
  go_enter Try.func5, Try.ntmps5
  go_wp2_with fail
  refine (zzb13_empty a cap h w).mono ?_
  rintro e w1 ⟨rfl, hw⟩
  obtain rfl : w = w1 := hw.symm
  go_wp2_with fail
  refine wp_loop_rounds 1 ?_
  rw [rounds_succ]
  go_wp2_with fail
  refine (cloneAll_zero a cap h w).mono ?_
  rintro e w2 ⟨a', rfl, hb2⟩
  go_wp2_with fail
  refine (new_any w2).mono ?_
  rintro e w3 ⟨rfl, _, hb3, _⟩
  have hb : Below w.heap.size w w3 := hb2.trans (hb3.mono hb2.size)
  clear hb2 hb3
  go_wp2_with fail
  refine wp_loop_rounds 1 ?_
  rw [rounds_succ]
  go_wp2_with fail
  go_ret
  exact ⟨rfl, hb⟩

end Go.Proofs.Qxb6600256a
