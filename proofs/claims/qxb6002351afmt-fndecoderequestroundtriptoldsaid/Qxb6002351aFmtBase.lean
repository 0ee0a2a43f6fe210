/-
  Seat b6002351aF: cloneBytesGridG1, sameBytesGridG1.
-/
import Derived.Test.Qxb6002351aFmtEnc
namespace Go.Proofs.Qxb6002351aFmt
open Go.RowKit

set_option maxHeartbeats 400000 in
theorem clone_nil (c : Nat) (w : World) : Calls Tryf.prog 7 #[.slice none 0 c] w fun e w' => e = .returned (.slice none 0 0) ∧ w' = w := by
  have q22 : ∀ (w : World) (a : Option Addr) (n c n' c' : Nat), (binOp .eql 22 (.slice a n c) (.slice none n' c')).run Tryf.prog w = .ok (.bool a.isNone) w := fun w a n c n' c' => Lib.run_eql_slice_nil w _ _ a n c n' c' Tryf.underlying22
  go_enter Tryf.func7, Tryf.ntmps7
  go_wp2
  go_ret
  exact ⟨rfl, rfl⟩

set_option maxHeartbeats 400000 in
theorem clone_empty (x : Addr) (cap : Nat) (w : World) : Calls Tryf.prog 7 #[.slice (some x) 0 cap] w fun e w' => e = .returned (.slice (some ⟨w.heap.size, 0, none⟩) 0 0) ∧ w' = w.alloc (.cells (madeCells #[.int .u8 0] 0) 5) := by
  have q22 : ∀ (w : World) (a : Option Addr) (n c n' c' : Nat), (binOp .eql 22 (.slice a n c) (.slice none n' c')).run Tryf.prog w = .ok (.bool a.isNone) w := fun w a n c n' c' => Lib.run_eql_slice_nil w _ _ a n c n' c' Tryf.underlying22
  have hmk := run_make_row' (P := Tryf.prog) 22 5 (.int .u8 0) 1 Tryf.underlying22 Tryf.info5 rfl .i64 .i64 0 (by omega) (by omega)
  simp only [Int.ofNat_zero] at hmk
  go_enter Tryf.func7, Tryf.ntmps7
  go_wp2
  refine wp_loop_rounds 1 ?_
  rw [rounds_succ]
  go_wp2
  go_ret
  exact ⟨rfl, rfl⟩

set_option maxHeartbeats 800000 in
theorem clone_some (b off len cap : Nat) (zs : List Int) (w : World) (hreach : len ≤ 140737488351232) (hb : b < w.heap.size)
    (hc : ∀ j, j < len → w.cell? ⟨b, off + j, none⟩ = some (.int .u8 (zs.getD j 0))) :
    Calls Tryf.prog 7 #[.slice (some ⟨b, off, none⟩) len cap] w fun e w' => e = .returned (.slice (some ⟨w.heap.size, 0, none⟩) len len) ∧ Below w.heap.size w w' ∧ w'.heap.size = w.heap.size + 1 ∧ w'.rowIs w.heap.size 5 len (fun i => .int .u8 (zs.getD i 0)) := by
  have q22 : ∀ (w : World) (a : Option Addr) (n c n' c' : Nat), (binOp .eql 22 (.slice a n c) (.slice none n' c')).run Tryf.prog w = .ok (.bool a.isNone) w := fun w a n c n' c' => Lib.run_eql_slice_nil w _ _ a n c n' c' Tryf.underlying22
  have hmk := run_make_row' (P := Tryf.prog) 22 5 (.int .u8 0) 1 Tryf.underlying22 Tryf.info5 rfl .i64 .i64 len (by omega) (by omega)
  go_enter Tryf.func7, Tryf.ntmps7
  go_wp2
  go_loopw [4] (fun i wr => ∃ k : Nat, k ≤ len ∧ i = .int .i64 k ∧ Below w.heap.size w wr ∧ wr.heap.size = w.heap.size + 1 ∧ wr.rowIs w.heap.size 5 len (fun i => if i < k then .int .u8 (zs.getD i 0) else .int .u8 0))
    (fun i _ => len - (intOf i).toNat)
  case atStart => exact ⟨0, Nat.zero_le _, rfl, (Below.refl _ _).alloc (Nat.le_refl _) _, by simp, (World.rowIs_made w (.int .u8 0) len 5).congr (by intro i hi; simp)⟩
  case round =>
    obtain ⟨k, hk, rfl, hbel, hsz, hrow⟩ := hrel
    by_cases hlt : k < len
    · have hcx : wr.cell? ⟨b, off + k, none⟩ = some (.int .u8 (zs.getD k 0)) := (hbel.cell (by exact hb)).trans (hc k hlt)
      have hcy := hrow.cell hlt
      have hfz := hrow.frozen k
      go_wp2
      go_roundw
      case rel =>
        refine ⟨k + 1, by omega, by go_num, hbel.setCell (Nat.le_refl _) _, by simpa using hsz, (hrow.set k _).congr ?_⟩
        intro i hi
        by_cases e : i = k
        · subst e; simp
        · simp only [e, if_false]
          by_cases e2 : i < k
          · rw [if_pos e2, if_pos (by omega)]
          · rw [if_neg e2, if_neg (by omega)]
      case measure => simp [intOf]; omega
    · have : k = len := by omega
      subst this
      go_wp2
      go_ret
      exact ⟨rfl, hbel, hsz, hrow.congr (by intro i hi; simp [hi])⟩

/-- The bytes as numbers. -/
def nums (xs : List UInt8) : List Int := xs.map fun b => (b.toNat : Int)
theorem nums_length (xs : List UInt8) : (nums xs).length = xs.length := by simp [nums]
theorem nums_getD (xs : List UInt8) (i : Nat) (h : i < xs.length) : (nums xs).getD i 0 = ((xs.getD i 0).toNat : Int) := by simp [nums, List.getD, h]
theorem nums_inj {xs ys : List UInt8} (h : nums xs = nums ys) : xs = ys := by
  have hl : xs.length = ys.length := by have := congrArg List.length h; rwa [nums_length, nums_length] at this
  apply List.ext_getElem hl
  intro i h1 h2
  have : (nums xs).getD i 0 = (nums ys).getD i 0 := by rw [h]
  rw [nums_getD xs i h1, nums_getD ys i h2] at this
  apply UInt8.toNat_inj.1
  have k : (xs[i].toNat : Int) = (ys[i].toNat : Int) := by simpa [List.getD, h1, h2] using this
  omega
theorem strOfNums_nums (xs : List UInt8) : strOfNums (nums xs) = B xs := by
  apply B_ext
  rw [strOfNums_data, nums, List.map_map]
  refine Eq.trans (List.map_congr_left (g := id) ?_) (List.map_id xs)
  intro b _
  simp

theorem grown_of_below {w w' : World} (h : Below w.heap.size w w') : w.grownBy w' none := ⟨h.os, h.tape, h.output, h.size, fun i hi _ => h.block i hi⟩

/-- cloneBytesGridG1. -/
theorem clone_any {w : World} {v : Value} {xs : List UInt8} (h : Rd w.heap.size w v xs) (hx : xs.length ≤ 140737488351232) :
    Calls Tryf.prog 7 #[v] w fun e w' => ∃ a, e = .returned (.slice a xs.length xs.length) ∧ Rd w'.heap.size w' (.slice a xs.length xs.length) xs ∧ w.grownBy w' none := by
  obtain ⟨a, c, rfl, hc⟩ := h
  rcases Nat.eq_zero_or_pos xs.length with h0 | h0
  · have : xs = [] := List.length_eq_zero_iff.1 h0
    subst this
    cases a with
    | none =>
      refine (clone_nil c w).mono ?_
      rintro e w' ⟨rfl, rfl⟩
      exact ⟨none, rfl, ⟨none, 0, rfl, .inl rfl⟩, World.grownBy.refl _ _⟩
    | some x =>
      refine (clone_empty x c w).mono ?_
      rintro e w' ⟨rfl, rfl⟩
      exact ⟨_, rfl, ⟨_, 0, rfl, .inl rfl⟩, World.grownBy_alloc _ _ _⟩
  · rcases hc with rfl | ⟨b, off, rfl, hb, hc⟩
    · simp at h0
    refine (clone_some b off xs.length c (nums xs) w hx hb (fun j hj => by rw [nums_getD xs j hj]; exact hc j hj)).mono ?_
    rintro e w' ⟨rfl, hbel, hsz, hrow⟩
    refine ⟨_, rfl, ⟨_, _, rfl, .inr ⟨w.heap.size, 0, rfl, by omega, fun i hi => ?_⟩⟩, grown_of_below hbel⟩
    have := hrow.cell hi
    rw [nums_getD xs i hi] at this
    simpa using this

set_option maxHeartbeats 800000 in
theorem same_len (a1 a2 : Option Addr) (n1 n2 c1 c2 : Nat) (w : World) (hne : n1 ≠ n2) :
    Calls Tryf.prog 10 #[.slice a1 n1 c1, .slice a2 n2 c2] w fun e w' => e = .returned (.bool false) ∧ w' = w := by
  have hd : ((n1 : Int) != (n2 : Int)) = true := by simp; omega
  go_enter Tryf.func10, Tryf.ntmps10
  go_wp2
  go_ret
  exact ⟨rfl, rfl⟩

set_option maxHeartbeats 800000 in
theorem same_zero (a1 a2 : Option Addr) (c1 c2 : Nat) (w : World) :
    Calls Tryf.prog 10 #[.slice a1 0 c1, .slice a2 0 c2] w fun e w' => e = .returned (.bool true) ∧ w' = w := by
  go_enter Tryf.func10, Tryf.ntmps10
  go_wp2
  refine wp_loop_rounds 1 ?_
  rw [rounds_succ]
  go_wp2
  go_ret
  exact ⟨rfl, rfl⟩

theorem eq_of_agree {xs ys : List Int} (hl : xs.length = ys.length) (h : ∀ i, i < xs.length → xs.getD i 0 = ys.getD i 0) : xs = ys := by
  apply List.ext_getElem hl
  intro i h1 h2
  have := h i h1
  simpa [List.getD, h1, h2] using this

set_option maxHeartbeats 800000 in
theorem same_some (b1 o1 b2 o2 n c1 c2 : Nat) (xs ys : List Int) (w : World) (hn : n ≤ 140737488351232) (hx : xs.length = n) (hy : ys.length = n)
    (h1 : ∀ i, i < n → w.cell? ⟨b1, o1 + i, none⟩ = some (.int .u8 (xs.getD i 0)))
    (h2 : ∀ i, i < n → w.cell? ⟨b2, o2 + i, none⟩ = some (.int .u8 (ys.getD i 0))) :
    Calls Tryf.prog 10 #[.slice (some ⟨b1, o1, none⟩) n c1, .slice (some ⟨b2, o2, none⟩) n c2] w fun e w' => e = .returned (.bool (decide (xs = ys))) ∧ ∃ m, w' = w.drewN m := by
  have hd : ((n : Int) != (n : Int)) = false := by simp
  go_enter Tryf.func10, Tryf.ntmps10
  go_wp2
  go_loopw [5] (fun i wr => ∃ k : Nat, k ≤ n ∧ i = .int .i64 k ∧ (∀ j, j < k → xs.getD j 0 = ys.getD j 0) ∧ ∃ m, wr = w.drewN m)
    (fun i _ => n - (intOf i).toNat)
  case atStart => exact ⟨0, Nat.zero_le _, rfl, by omega, 0, rfl⟩
  case round =>
    obtain ⟨k, hk, rfl, hag, m, rfl⟩ := hrel
    have HA : Hid (∀ j, j < k → xs.getD j 0 = ys.getD j 0) := hag
    clear hag
    by_cases hlt : k < n
    · have hlt' : (k : Int) < (n : Int) := by omega
      have h0 : (0 : Int) ≤ (k : Int) := by omega
      have g1 := h1 k hlt
      have g2 := h2 k hlt
      have kx : k < xs.length := by omega
      have ky : k < ys.length := by omega
      go_wp2
      go_quiet (fail)
      go_wp2
      · have hne : (xs[k] != ys[k]) = true := by assumption
        have : ¬ xs = ys := by intro e; subst e; simp at hne
        go_ret
        exact ⟨by simp [this], m + nq, by simp⟩
      · have heq : (xs[k] != ys[k]) = false := by assumption
        have hxy : xs.getD k 0 = ys.getD k 0 := by simp [kx, ky]; simpa using heq
        go_roundw
        case rel =>
          refine ⟨k + 1, by omega, by go_num, ?_, m + nq, by simp⟩
          intro j hj
          by_cases e : j = k
          · subst e; exact hxy
          · exact HA.out j (by omega)
        case measure => simp [intOf]; omega
    · have : k = n := by omega
      subst this
      have he : xs = ys := eq_of_agree (by omega) (fun i hi => HA.out i (by omega))
      have HE : Hid (xs = ys) := he
      clear he
      go_wp2
      go_ret
      exact ⟨by simp [HE.out], _, rfl⟩

/-- sameBytesGridG1. -/
theorem same_any {B1 B2 : Nat} {w : World} {v1 v2 : Value} {xs ys : List UInt8} (h1 : Rd B1 w v1 xs) (h2 : Rd B2 w v2 ys) (hn : xs.length ≤ 140737488351232) :
    Calls Tryf.prog 10 #[v1, v2] w fun e w' => e = .returned (.bool (decide (xs = ys))) ∧ ∃ m, w' = w.drewN m := by
  obtain ⟨a1, c1, rfl, k1⟩ := h1
  obtain ⟨a2, c2, rfl, k2⟩ := h2
  by_cases hl : xs.length = ys.length
  · by_cases hz : xs.length = 0
    · have hy0 : ys.length = 0 := by omega
      have : xs = ys := by rw [List.length_eq_zero_iff.1 hz, List.length_eq_zero_iff.1 hy0]
      rw [hz, hy0]
      refine (same_zero a1 a2 c1 c2 w).mono ?_
      rintro e w' ⟨rfl, rfl⟩
      exact ⟨by simp [this], 0, rfl⟩
    · rcases k1 with rfl | ⟨b1, o1, rfl, _, k1⟩
      · simp at hz
      rcases k2 with rfl | ⟨b2, o2, rfl, _, k2⟩
      · exact absurd (by simpa using hl) hz
      rw [← hl] at k2 ⊢
      refine (same_some b1 o1 b2 o2 xs.length c1 c2 (nums xs) (nums ys) w hn (nums_length xs) ((nums_length ys).trans hl.symm) (fun i hi => by rw [nums_getD xs i hi]; exact k1 i hi) (fun i hi => by rw [nums_getD ys i (by omega)]; exact k2 i hi)).mono ?_
      rintro e w' ⟨rfl, m, rfl⟩
      refine ⟨?_, m, rfl⟩
      have : decide (nums xs = nums ys) = decide (xs = ys) := by
        by_cases e : xs = ys
        · subst e; simp
        · simp only [e, decide_false, decide_eq_false_iff_not]
          exact fun h => e (nums_inj h)
      rw [this]
  · refine (same_len a1 a2 _ _ c1 c2 w hl).mono ?_
    rintro e w' ⟨rfl, rfl⟩
    have : ¬ xs = ys := fun e => hl (by rw [e])
    exact ⟨by simp [this], 0, rfl⟩

/-- 'string(v)', whatever string type. -/
theorem conv_any {Bd : Nat} {w : World} {v : Value} {xs : List UInt8} (h : Rd Bd w v xs) (t : TypeId) (ht : Tryf.prog.underlying t = some .string) : (convert 22 t v).run Tryf.prog w = .ok (.string (B xs)) w := by
  obtain ⟨a, c, rfl, hc⟩ := h
  rcases hc with rfl | ⟨b, off, rfl, _, hc⟩
  · cases a with
    | none =>
      rw [List.length_nil, run_convert_bytes_nil w 22 5 Tryf.underlying22 Tryf.underlying5 0 c t ht]
      rfl
    | some x =>
      exact run_convert_bytes_back (P := Tryf.prog) w 22 t 5 x c [] Tryf.underlying22 Tryf.underlying5 ht (by intro j hj; simp at hj)
  · rw [← nums_length xs, run_convert_bytes_arg w 22 5 Tryf.underlying22 Tryf.underlying5 b off (nums xs).length c (nums xs) rfl (by intro i hi; rw [nums_length] at hi; rw [nums_getD xs i hi]; exact hc i hi) t ht, strOfNums_nums]

end Go.Proofs.Qxb6002351aFmt
