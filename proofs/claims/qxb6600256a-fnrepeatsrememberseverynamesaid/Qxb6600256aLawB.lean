/-
  Seat b6600256a: the law FnRepeatsRemembersEveryName: the walk.
-/
import Derived.Test.Qxb6600256aLawA
namespace Go.Proofs.Qxb6600256a
open Go.RowKit Go.Maps Go.WideMaps

set_option maxHeartbeats 800000 in
theorem zzb18_zero (a : Option Addr) (cap : Nat) (af : Option Addr) (nf cf : Nat) (w : World) (hf : nf ≤ 9223372036854775807) :
    Calls Try.prog 18 #[.slice a 0 cap, .slice af nf cf] w fun e w' => w' = w ∧ ((e = .returned (.bool false)) ∨ (e = .returned (.bool true) ∧ nf ≤ 1048576)) := by
  by_cases hbig : nf ≤ 1048576
  · go_enter Try.func18, Try.ntmps18
    go_wp2
    refine wp_loop_rounds 1 ?_
    rw [rounds_succ]
    go_wp2
    go_ret
    refine ⟨rfl, .inr ?_⟩
    first | exact ⟨rfl, hbig⟩ | exact rfl | trivial
  · have hbig' : (1048576 : Int) < (nf : Int) := by omega
    go_enter Try.func18, Try.ntmps18
    go_wp2
    refine wp_loop_rounds 1 ?_
    rw [rounds_succ]
    go_wp2
    go_ret
    exact ⟨rfl, .inl rfl⟩

set_option maxHeartbeats 800000 in
theorem zzb18_some (b off n cap : Nat) (A : Nat → Option Addr) (L C : Nat → Nat) (af : Option Addr) (nf cf : Nat) (w : World) (hn : n ≤ 9223372036854775807) (hf : nf ≤ 9223372036854775807)
    (hc : ∀ r, r < n → w.cell? ⟨b, off + r, none⟩ = some (.slice (A r) (L r) (C r))) :
    Calls Try.prog 18 #[.slice (some ⟨b, off, none⟩) n cap, .slice af nf cf] w fun e w' => w' = w ∧ ((e = .returned (.bool false)) ∨ (e = .returned (.bool true) ∧ n ≤ 1048576 ∧ nf ≤ 1048576 ∧ ∀ r, r < n → L r ≤ 1048576)) := by
  by_cases hbig : n ≤ 1048576
  · have hbig' : ¬ (1048576 : Int) < (n : Int) := by omega
    go_enter Try.func18, Try.ntmps18
    go_wp2
    go_loop [5, 6] (fun t i => ∃ k : Nat, ∃ q : Int, k ≤ n ∧ i = .int .i64 k ∧ t = .int .i64 q ∧ 0 ≤ q ∧ q ≤ 1048576 ∧ ∀ r, r < k → L r ≤ 1048576) (fun _ i => n - (intOf i).toNat)
    case atStart => exact ⟨0, n, Nat.zero_le _, rfl, rfl, by omega, by omega, fun r hr => by omega⟩
    case round =>
      obtain ⟨k, q, hk, rfl, rfl, hq0, hq1, hL⟩ := hrel
      by_cases hlt : k < n
      · have hck := hc k hlt
        have HL : Hid (∀ r, r < k → L r ≤ 1048576) := hL
        clear hL
        by_cases hl : L k ≤ 1048576
        · go_wp2
          · go_ret
            exact ⟨rfl, .inl rfl⟩
          · go_round
            case rel =>
              refine ⟨k + 1, _, by omega, by go_num, rfl, by omega, by omega, fun r hr => ?_⟩
              by_cases e : r = k
              · subst e; exact hl
              · exact HL.out r (by omega)
            case measure => simp [intOf]; omega
        · have hl' : (1048576 : Int) < (L k : Int) := by omega
          go_wp2
          go_ret
          exact ⟨rfl, .inl rfl⟩
      · have : k = n := by omega
        subst this
        have HL : Hid (∀ r, r < k → L r ≤ 1048576) := hL
        clear hL
        by_cases hf2 : nf ≤ 1048576
        · go_wp2
          · go_ret
            exact ⟨rfl, .inl rfl⟩
          · go_ret
            refine ⟨rfl, .inr ?_⟩
            first | exact ⟨rfl, hbig, hf2, HL.out⟩ | exact ⟨rfl, HL.out⟩ | exact HL.out
        · have hf3 : (1048576 : Int) < (nf : Int) := by omega
          go_wp2
          go_ret
          refine ⟨rfl, ?_⟩
          first | exact .inl rfl | exact rfl
  · have hbig' : (1048576 : Int) < (n : Int) := by omega
    go_enter Try.func18, Try.ntmps18
    go_wp2
    go_ret
    exact ⟨rfl, .inl rfl⟩

theorem names_drewN {S d : Nat} {w : World} {st : List (List Int)} (h : Names S w st) : Names S (w.drewN d) st := by
  rcases h with ⟨h16, f, hr, h1, h2, h3⟩ | ⟨f, M, hr, h1, h2, h3⟩
  · exact .inl ⟨h16, f, hr, h1, h2, fun i hi => (h3 i hi).below ⟨rfl, rfl, rfl, Nat.le_refl _, fun _ _ => rfl⟩⟩
  · exact .inr ⟨f, M, hr, h1, h2, h3⟩

theorem below_drewN (B d : Nat) (w : World) : Below B w (w.drewN d) := ⟨rfl, rfl, rfl, Nat.le_refl _, fun _ _ => rfl⟩

/-- A slice value shows its shape. -/
theorem NewB.shape {lo : Nat} {w : World} {v : Value} {xs : List Int} (h : NewB lo w v xs) : ∃ a n c, v = .slice a n c := by
  rcases h with ⟨e, _⟩ | ⟨_, _, _, e, _⟩
  · exact ⟨_, _, _, e⟩
  · exact ⟨_, _, _, e⟩

theorem seen_fresh {xss : List (List Int)} {ys : List Int} (h : NoneTo xss ys xss.length) : hasN (seen xss xss.length) ys = false := by
  apply hasN_new
  rw [mem_seen, List.take_of_length_le (Nat.le_refl _)]
  exact noneTo_all h

theorem seen_all {xss : List (List Int)} {j : Nat} (h : j < xss.length) : hasN (seen xss xss.length) (xss.getD j []) = true ∧ addN (seen xss xss.length) (xss.getD j []) = seen xss xss.length := by
  have hm : xss.getD j [] ∈ seen xss xss.length := by
    rw [mem_seen, List.take_of_length_le (Nat.le_refl _)]
    exact getD_mem h
  exact ⟨hasN_in hm, addN_in hm⟩

set_option maxHeartbeats 2000000 in
theorem lawB_some (b off cap : Nat) (xss : List (List Int)) (af : Option Addr) (nf cf : Nat) (ys : List Int) (w : World) (A : Nat → Option Addr) (L C : Nat → Nat) (hn : xss.length ≤ 9223372036854775807) (hpos : 0 < xss.length)
    (hc : ∀ r, r < xss.length → w.cell? ⟨b, off + r, none⟩ = some (.slice (A r) (L r) (C r))) (hL : ∀ r, r < xss.length → L r = (xss.getD r []).length)
    (hin : InS w.heap.size w (.slice (some ⟨b, off, none⟩) xss.length cap) xss) (hok : ∀ y ∈ xss, ∀ n ∈ y, 0 ≤ n ∧ n ≤ 255)
    (hnf : nf = ys.length) (hfm : nf ≤ 9223372036854775807) (hinf : InB w.heap.size w (.slice af nf cf) ys) (hokf : ∀ n ∈ ys, 0 ≤ n ∧ n ≤ 255) :
    Calls Try.prog 6 #[.slice (some ⟨b, off, none⟩) xss.length cap, .slice af nf cf] w fun e w' => e = .returned (.bool true) ∧ Below w.heap.size w w' := by
  obtain ⟨n, hnn⟩ : ∃ n, n = xss.length := ⟨_, rfl⟩
  rw [← hnn] at hn hpos hc hL hin ⊢
  have HN : Hid (n = xss.length) := hnn
  have HNF : Hid (nf = ys.length) := hnf
  have HIN : Hid (InS w.heap.size w (.slice (some ⟨b, off, none⟩) n cap) xss) := hin
  have HINF : Hid (InB w.heap.size w (.slice af nf cf) ys) := hinf
  have HL : Hid (∀ r, r < n → L r = (xss.getD r []).length) := hL
  clear hnn hin hL hnf hinf
  go_enter Try.func6, Try.ntmps6
  go_wp2_with fail
  refine (zzb18_some b off n cap A L C af nf cf w hn hfm hc).mono ?_
  rintro e w1 ⟨hw, h13⟩
  obtain rfl : w = w1 := hw.symm
  rcases h13 with rfl | ⟨rfl, hsm, hfs, hLs⟩
  · go_wp2
    go_ret
    exact ⟨rfl, Below.refl _ _⟩
  by_cases h4096 : n ≤ 4096
  rotate_left
  · have h4 : (4096 : Int) < (n : Int) := by omega
    go_wp2
    go_ret
    exact ⟨rfl, Below.refl _ _⟩
  by_cases h24 : (24 : Int) * n + nf ≤ 1048576
  rotate_left
  · have h25 : (1048576 : Int) < 24 * n + nf := by omega
    go_wp2
    go_ret
    exact ⟨rfl, Below.refl _ _⟩
  go_wp2
  go_loop [5, 6] (fun t i => ∃ k : Nat, ∃ q : Int, k ≤ n ∧ i = .int .i64 k ∧ t = .int .i64 q ∧ 0 ≤ q ∧ q ≤ 1048576) (fun _ i => n - (intOf i).toNat)
  case atStart => exact ⟨0, _, Nat.zero_le _, rfl, rfl, by omega, by omega⟩
  case round =>
    obtain ⟨k, q, hk, rfl, rfl, hq0, hq1⟩ := hrel
    by_cases hlt : k < n
    · have hck := hc k hlt
      have hl := hLs k hlt
      go_wp2
      · go_ret
        exact ⟨rfl, Below.refl _ _⟩
      · go_round
        case rel => exact ⟨k + 1, _, by omega, by go_num, rfl, by omega, by omega⟩
        case measure => simp [intOf]; omega
    · have hkn : k = n := by omega
      subst hkn
      have HO : Hid (∀ y ∈ xss, Okb y) := by
        intro y hy
        refine ⟨?_, hok y hy⟩
        obtain ⟨r, hr, e⟩ := List.mem_iff_getElem.1 hy
        have h1 := hLs r (by rw [HN.out]; exact hr)
        rw [HL.out r (by rw [HN.out]; exact hr)] at h1
        simp [List.getD, hr, e] at h1
        omega
      have HOF : Hid (Okb ys) := ⟨by rw [← HNF.out]; omega, hokf⟩
      clear hok hc hLs hokf
      go_wp2_with fail
      refine (cloneAll_any HIN.out (by rw [← HN.out]; exact hsm) (fun y hy => (HO.out y hy).1)).mono ?_
      rintro e w1 ⟨v1, rfl, hown, hbel1⟩
      obtain ⟨bs, hbs, hv1, hcs⟩ : ∃ b, b < w1.heap.size ∧ v1 = .slice (some ⟨b, 0, none⟩) k k ∧ ∀ r, r < k → ∃ a n c, w1.cell? ⟨b, r, none⟩ = some (.slice a n c) ∧ ByRow w1.heap.size w1 (.slice a n c) (xss.getD r []) := by
        rcases hown with ⟨_, e⟩ | ⟨b, h1, h2, h3⟩
        · have hz := HN.out; rw [e] at hz; simp at hz; omega
        · rw [← HN.out] at h2 h3
          exact ⟨b, h1, h2, h3⟩
      rw [hv1]
      have hsz1 := hbel1.size
      have hinf1 := HINF.out.below hbel1
      have HB1 : Hid (Below w.heap.size w w1) := hbel1
      clear hown hv1 HIN hbel1
      go_wp2_with fail
      refine (clone_any hinf1 hsz1 HOF.out.1).mono ?_
      rintro e w2 ⟨v2, rfl, hnew, hbel2⟩
      obtain ⟨a2, n2, c2, hv2⟩ := hnew.shape
      rw [hv2] at hnew ⊢
      have hfr := hnew.row (Nat.le_refl _)
      have hsz2 := hbel2.size
      have HCS : Hid (∀ r, r < k → ∃ a n c, w2.cell? ⟨bs, r, none⟩ = some (.slice a n c) ∧ ByRow w2.heap.size w2 (.slice a n c) (xss.getD r [])) := fun r hr => by
        obtain ⟨a, n, c, h1, h2⟩ := hcs r hr
        exact ⟨a, n, c, (hbel2.cell (by exact hbs)).trans h1, (h2.below hbel2).mono hsz2⟩
      have HFR : Hid (ByRow w2.heap.size w2 (.slice a2 n2 c2) ys) := hfr
      have HB2 : Hid (Below w.heap.size w w2) := HB1.out.trans (hbel2.mono hsz1)
      clear hnew hv2 hinf1 hfr hcs hbel2 HINF
      go_wp2_with fail
      go_loopw [7] (fun i wr => ∃ j : Nat, j ≤ k ∧ i = .int .i64 j ∧ NoneTo xss ys j ∧ Below w2.heap.size w2 wr) (fun i _ => k - (intOf i).toNat)
      case atStart => exact ⟨0, Nat.zero_le _, rfl, fun r hr => by omega, Below.refl _ _⟩
      case round =>
        obtain ⟨j, hj, rfl, hno, hbw⟩ := hrel
        by_cases hjk : j < k
        · obtain ⟨aj, nj, cj, cellj, rowj⟩ := HCS.out j hjk
          have cellj' : wr.cell? ⟨bs, j, none⟩ = some (.slice aj nj cj) := (hbw.cell (by simp; omega)).trans cellj
          have hlj : j < xss.length := by rw [← HN.out]; exact hjk
          have hokj := HO.out _ (getD_mem hlj)
          have HS : Hid (Calls Try.prog 16 #[.slice aj nj cj, .slice a2 n2 c2] wr fun e w' => e = .returned (.bool (decide (xss.getD j [] = ys))) ∧ ∃ m, w' = wr.drewN m) := same_any (rowj.below hbw) (HFR.out.below hbw) hokj.1
          clear cellj rowj hokj
          by_cases heq : xss.getD j [] = ys
          · rw [decide_eq_true heq] at HS
            clear heq
            go_wp2_with fail
            refine HS.out.mono ?_
            rintro e w3 ⟨rfl, m, rfl⟩
            go_wp2_with fail
            go_ret
            exact ⟨rfl, (HB2.out.trans (hbw.mono (by omega))).trans (below_drewN _ _ _)⟩
          · rw [decide_eq_false heq] at HS
            have HNE : Hid (¬ xss.getD j [] = ys) := heq
            clear heq
            go_wp2_with fail
            refine HS.out.mono ?_
            rintro e w3 ⟨rfl, m, rfl⟩
            go_wp2_with fail
            go_roundw
            case rel => exact ⟨j + 1, by omega, by go_num, noneTo_succ hno HNE.out, hbw.trans (below_drewN _ _ _)⟩
            case measure => simp [intOf]; omega
        · have hjk2 : j = k := by omega
          subst hjk2
          have HNO : Hid (NoneTo xss ys xss.length) := by rw [← HN.out]; exact hno
          clear hno
          have hszr := hbw.size
          have HBR : Hid (Below w2.heap.size w2 wr) := hbw
          clear hbw
          obtain ⟨wo, rfl⟩ : ∃ wo : World, wo = wr := ⟨_, rfl⟩
          go_wp2_with fail
          refine (new_any wo).mono ?_
          rintro e w3 ⟨rfl, hnm, hbel3, hlt3⟩
          have HB3 : Hid (Below wo.heap.size wo w3) := hbel3
          have HNM : Hid (Names wo.heap.size w3 []) := hnm
          clear hnm hbel3
          have HCS3 : Hid (∀ wx, Below wo.heap.size wo wx → ∀ r, r < j → ∃ a n c, wx.cell? ⟨bs, r, none⟩ = some (.slice a n c) ∧ ByRow wo.heap.size wx (.slice a n c) (xss.getD r [])) := fun wx hwx r hr => by
            obtain ⟨a, n, c, h1, h2⟩ := HCS.out r hr
            exact ⟨a, n, c, (hwx.cell (by simp; omega)).trans ((HBR.out.cell (by simp; omega)).trans h1), ((h2.below HBR.out).mono hszr).below hwx⟩
          have HFR3 : Hid (∀ wx, Below wo.heap.size wo wx → ByRow wo.heap.size wx (.slice a2 n2 c2) ys) := fun wx hwx => ((HFR.out.below HBR.out).mono hszr).below hwx
          go_wp2_with fail
          go_loopw [9] (fun i wr => ∃ m : Nat, m ≤ j ∧ i = .int .i64 m ∧ Names wo.heap.size wr (seen xss m) ∧ Below wo.heap.size wo wr) (fun i _ => j - (intOf i).toNat)
          case atStart => exact ⟨0, Nat.zero_le _, rfl, by rw [seen_zero]; exact HNM.out, HB3.out⟩
          case round =>
            obtain ⟨m, hm, rfl, hnm, hbw⟩ := hrel
            by_cases hmj : m < j
            · obtain ⟨am, nm, cm, cellm, rowm⟩ := HCS3.out wr hbw m hmj
              have hlm : m < xss.length := by rw [← HN.out]; exact hmj
              have hsl := seen_length xss m
              have HREP : Hid (Calls Try.prog 17 #[.pointer (some ⟨wo.heap.size, 0, none⟩), .slice am nm cm] wr fun e w' => e = .returned (.bool (hasN (seen xss m) (xss.getD m []))) ∧ Names wo.heap.size w' (addN (seen xss m) (xss.getD m [])) ∧ Below wo.heap.size wr w') :=
                zzrepeats_any hnm (seen_ok HO.out m) rowm (HO.out _ (getD_mem hlm)) (by omega)
              have HBW : Hid (Below wo.heap.size wo wr) := hbw
              clear hnm rowm hsl hbw
              go_wp2_with fail
              refine HREP.out.mono ?_
              rintro e w4 ⟨rfl, hnm4, hb4⟩
              have HN4 : Hid (Names wo.heap.size w4 (seen xss (m + 1)) ∧ Below wo.heap.size wo w4) := ⟨by rw [seen_succ hlm]; exact hnm4, HBW.out.trans hb4⟩
              clear hnm4 hb4
              go_wp2_with fail
              go_roundw
              case rel => exact ⟨m + 1, by omega, by go_num, HN4.out.1, HN4.out.2⟩
              case measure => simp [intOf]; omega
            · have hmj2 : m = j := by omega
              subst hmj2
              have HNA : Hid (Names wo.heap.size wr (seen xss xss.length)) := by rw [← HN.out]; exact hnm
              have HBW : Hid (Below wo.heap.size wo wr) := hbw
              clear hnm hbw
              obtain ⟨wp, rfl⟩ : ∃ wp : World, wp = wr := ⟨_, rfl⟩
              go_wp2_with fail
              go_loopw [10] (fun i wr => ∃ r : Nat, r ≤ m ∧ i = .int .i64 r ∧ Names wo.heap.size wr (seen xss xss.length) ∧ Below wo.heap.size wo wr) (fun i _ => m - (intOf i).toNat)
              case atStart => exact ⟨0, Nat.zero_le _, rfl, HNA.out, HBW.out⟩
              case round =>
                obtain ⟨r, hr, rfl, hnm, hbw⟩ := hrel
                by_cases hrm : r < m
                · obtain ⟨am, nm, cm, cellm, rowm⟩ := HCS3.out wr hbw r hrm
                  have hlm : r < xss.length := by rw [← HN.out]; exact hrm
                  have hsl := seen_length xss xss.length
                  have hxl := HN.out
                  have hall := seen_all hlm
                  have h0 := zzrepeats_any hnm (seen_ok HO.out xss.length) rowm (HO.out _ (getD_mem hlm)) (by omega)
                  rw [hall.1, hall.2] at h0
                  have HREP : Hid (Calls Try.prog 17 #[.pointer (some ⟨wo.heap.size, 0, none⟩), .slice am nm cm] wr fun e w' => e = .returned (.bool true) ∧ Names wo.heap.size w' (seen xss xss.length) ∧ Below wo.heap.size wr w') := h0
                  have HBW2 : Hid (Below wo.heap.size wo wr) := hbw
                  clear hnm rowm hsl hbw h0 hall hxl
                  go_wp2_with fail
                  refine HREP.out.mono ?_
                  rintro e w4 ⟨rfl, hnm4, hb4⟩
                  have HN4 : Hid (Names wo.heap.size w4 (seen xss xss.length) ∧ Below wo.heap.size wo w4) := ⟨hnm4, HBW2.out.trans hb4⟩
                  clear hnm4 hb4
                  go_wp2_with fail
                  go_roundw
                  case rel => exact ⟨r + 1, by omega, by go_num, HN4.out.1, HN4.out.2⟩
                  case measure => simp [intOf]; omega
                · have hsl := seen_length xss xss.length
                  have hxl := HN.out
                  have h0 := zzrepeats_any hnm (seen_ok HO.out xss.length) (HFR3.out wr hbw) HOF.out (by omega)
                  rw [seen_fresh HNO.out] at h0
                  have HREP : Hid (Calls Try.prog 17 #[.pointer (some ⟨wo.heap.size, 0, none⟩), .slice a2 n2 c2] wr fun e w' => e = .returned (.bool false) ∧ Names wo.heap.size w' (addN (seen xss xss.length) ys) ∧ Below wo.heap.size wr w') := h0
                  have HBW2 : Hid (Below wo.heap.size wo wr) := hbw
                  have HSL : Hid ((addN (seen xss xss.length) ys).length ≤ xss.length + 1 ∧ xss.length ≤ 4096) := ⟨by have := addN_length (seen xss xss.length) ys; omega, by omega⟩
                  clear hnm hsl hbw h0 hxl
                  go_wp2_with fail
                  refine HREP.out.mono ?_
                  rintro e w4 ⟨rfl, hnm4, hb4⟩
                  have hbw4 := HBW2.out.trans hb4
                  have h5 := zzrepeats_any hnm4 (fun y hy => by
                    rcases (mem_addN _ _ _).1 hy with h | rfl
                    · exact seen_ok HO.out _ y h
                    · exact HOF.out) (HFR3.out w4 hbw4) HOF.out (by have := HSL.out; omega)
                  have hh : hasN (addN (seen xss xss.length) ys) ys = true := hasN_in ((mem_addN _ _ _).2 (.inr rfl))
                  rw [hh] at h5
                  have HREP2 : Hid (Calls Try.prog 17 #[.pointer (some ⟨wo.heap.size, 0, none⟩), .slice a2 n2 c2] w4 fun e w' => e = .returned (.bool true) ∧ Names wo.heap.size w' (addN (addN (seen xss xss.length) ys) ys) ∧ Below wo.heap.size w4 w') := h5
                  have HBW4 : Hid (Below wo.heap.size wo w4) := hbw4
                  clear hnm4 hb4 hbw4 h5 hh
                  go_wp2_with fail
                  refine HREP2.out.mono ?_
                  rintro e w5 ⟨rfl, _, hb5⟩
                  have HB5 : Hid (Below wo.heap.size wo w5) := HBW4.out.trans hb5
                  clear hb5
                  go_wp2_with fail
                  go_ret
                  exact ⟨rfl, (HB2.out.trans (HBR.out.mono (by omega))).trans (HB5.out.mono (by omega))⟩

set_option maxHeartbeats 1600000 in
theorem lawB_zero (a : Option Addr) (cap : Nat) (h : a = none → cap = 0) (af : Option Addr) (nf cf : Nat) (ys : List Int) (w : World)
    (hnf : nf = ys.length) (hfm : nf ≤ 9223372036854775807) (hinf : InB w.heap.size w (.slice af nf cf) ys) (hokf : ∀ n ∈ ys, 0 ≤ n ∧ n ≤ 255) :
    Calls Try.prog 6 #[.slice a 0 cap, .slice af nf cf] w fun e w' => e = .returned (.bool true) ∧ Below w.heap.size w w' := by
  have HNF : Hid (nf = ys.length) := hnf
  have HINF : Hid (InB w.heap.size w (.slice af nf cf) ys) := hinf
  clear hnf hinf
  go_enter Try.func6, Try.ntmps6
  go_wp2_with fail
  refine (zzb18_zero a cap af nf cf w hfm).mono ?_
  rintro e w1 ⟨hw, h13⟩
  obtain rfl : w = w1 := hw.symm
  rcases h13 with rfl | ⟨rfl, hfs⟩
  · go_wp2
    go_ret
    exact ⟨rfl, Below.refl _ _⟩
  have HOF : Hid (Okb ys) := ⟨by rw [← HNF.out]; omega, hokf⟩
  clear hokf
  go_wp2_with fail
  refine wp_loop_rounds 1 ?_
  rw [rounds_succ]
  go_wp2_with fail
  refine (cloneAll_zero a cap h w).mono ?_
  rintro e w2 ⟨a', rfl, hb2⟩
  have hsz2 := hb2.size
  have hinf2 := HINF.out.below hb2
  have HB2 : Hid (Below w.heap.size w w2) := hb2
  clear hb2 HINF
  go_wp2_with fail
  refine (clone_any hinf2 hsz2 HOF.out.1).mono ?_
  rintro e w3 ⟨v3, rfl, hnew, hb3⟩
  obtain ⟨a3, n3, c3, hv3⟩ := hnew.shape
  rw [hv3] at hnew ⊢
  have HFR : Hid (ByRow w3.heap.size w3 (.slice a3 n3 c3) ys) := hnew.row (Nat.le_refl _)
  have HB3 : Hid (Below w.heap.size w w3) := HB2.out.trans (hb3.mono hsz2)
  have hsz3 := HB3.out.size
  clear hnew hv3 hb3 hinf2
  go_wp2_with fail
  refine wp_loop_rounds 1 ?_
  rw [rounds_succ]
  go_wp2_with fail
  refine (new_any w3).mono ?_
  rintro e w4 ⟨rfl, hnm, hb4, _⟩
  have HB4 : Hid (Below w3.heap.size w3 w4) := hb4
  have HNM : Hid (Names w3.heap.size w4 []) := hnm
  clear hnm hb4
  go_wp2_with fail
  refine wp_loop_rounds 1 ?_
  rw [rounds_succ]
  go_wp2_with fail
  refine wp_loop_rounds 1 ?_
  rw [rounds_succ]
  go_wp2_with fail
  refine (zzrepeats_any HNM.out (fun y hy => by simp at hy) (HFR.out.below HB4.out) HOF.out (by simp)).mono ?_
  have hh : hasN [] ys = false := hasN_new (by simp)
  rw [hh]
  rintro e w5 ⟨rfl, hnm5, hb5⟩
  have hbw5 := HB4.out.trans hb5
  have h5 := zzrepeats_any hnm5 (fun y hy => by
    rcases (mem_addN _ _ _).1 hy with h | rfl
    · simp at h
    · exact HOF.out) (HFR.out.below hbw5) HOF.out (by have := addN_length [] ys; simp at this; omega)
  have hh2 : hasN (addN [] ys) ys = true := hasN_in ((mem_addN _ _ _).2 (.inr rfl))
  rw [hh2] at h5
  have HREP2 : Hid (Calls Try.prog 17 #[.pointer (some ⟨w3.heap.size, 0, none⟩), .slice a3 n3 c3] w5 fun e w' => e = .returned (.bool true) ∧ Names w3.heap.size w' (addN (addN [] ys) ys) ∧ Below w3.heap.size w5 w') := h5
  have HBW5 : Hid (Below w3.heap.size w3 w5) := hbw5
  clear hnm5 hb5 hbw5 h5 hh hh2
  go_wp2_with fail
  refine HREP2.out.mono ?_
  rintro e w6 ⟨rfl, _, hb6⟩
  have HB6 : Hid (Below w3.heap.size w3 w6) := HBW5.out.trans hb6
  clear hb6
  go_wp2_with fail
  go_ret
  exact ⟨rfl, HB3.out.trans (HB6.out.mono hsz3)⟩

end Go.Proofs.Qxb6600256a
