/-
  Seat b6600256a: the predicates, and the walks of zzClone, zzSameBytes, bytes.Equal.
-/
import Derived.Test.Qxb6600256aRows
import Derived.WalkKit
import Derived.WalkSpells
import Derived.WalkLawsBesides
import Derived.Deep.QuietTactic
import Derived.BigQuiet
import Derived.Deep.OwnRows
namespace Go.Proofs.Qxb6600256a
open Go.RowKit

theorem Try.info5 : (Try.prog.info? 5).map (fun i => (i.zero, i.size, i.bytes)) = some (some (.int .u8 0), 1, 1) := by kernel_rfl
theorem Try.info22 : (Try.prog.info? 22).map (fun i => (i.zero, i.size, i.bytes)) = some (some (.slice none 0 0), 1, 24) := by kernel_rfl

set_option maxHeartbeats 400000 in
theorem clone_nil (w : World) : Calls Try.prog 8 #[.slice none 0 0] w fun e w' => e = .returned (.slice none 0 0) ∧ w' = w := by
  have q22 : ∀ (w : World) (a : Option Addr) (n c n' c' : Nat), (binOp .eql 22 (.slice a n c) (.slice none n' c')).run Try.prog w = .ok (.bool a.isNone) w := fun w a n c n' c' => Lib.run_eql_slice_nil w _ _ a n c n' c' Try.underlying22
  go_enter Try.func8, Try.ntmps8
  go_wp2
  go_ret
  exact ⟨rfl, rfl⟩

set_option maxHeartbeats 400000 in
theorem clone_empty (x : Addr) (cap : Nat) (w : World) : Calls Try.prog 8 #[.slice (some x) 0 cap] w fun e w' => e = .returned (.slice (some ⟨w.heap.size, 0, none⟩) 0 0) ∧ w' = w.alloc (.cells (madeCells #[.int .u8 0] 0) 5) := by
  have q22 : ∀ (w : World) (a : Option Addr) (n c n' c' : Nat), (binOp .eql 22 (.slice a n c) (.slice none n' c')).run Try.prog w = .ok (.bool a.isNone) w := fun w a n c n' c' => Lib.run_eql_slice_nil w _ _ a n c n' c' Try.underlying22
  have hmk := run_make_row' (P := Try.prog) 22 5 (.int .u8 0) 1 Try.underlying22 Try.info5 rfl .i64 .i64 0 (by omega) (by omega)
  simp only [Int.ofNat_zero] at hmk
  go_enter Try.func8, Try.ntmps8
  go_wp2
  refine wp_loop_rounds 1 ?_
  rw [rounds_succ]
  go_wp2
  go_ret
  exact ⟨rfl, rfl⟩

set_option maxHeartbeats 800000 in
theorem clone_some (b off len cap : Nat) (zs : List Int) (w : World) (hreach : len ≤ 140737488351232) (hb : b < w.heap.size)
    (hc : ∀ j, j < len → w.cell? ⟨b, off + j, none⟩ = some (.int .u8 (zs.getD j 0))) :
    Calls Try.prog 8 #[.slice (some ⟨b, off, none⟩) len cap] w fun e w' => e = .returned (.slice (some ⟨w.heap.size, 0, none⟩) len len) ∧ Below w.heap.size w w' ∧ w'.heap.size = w.heap.size + 1 ∧ w'.rowIs w.heap.size 5 len (fun i => .int .u8 (zs.getD i 0)) := by
  have q22 : ∀ (w : World) (a : Option Addr) (n c n' c' : Nat), (binOp .eql 22 (.slice a n c) (.slice none n' c')).run Try.prog w = .ok (.bool a.isNone) w := fun w a n c n' c' => Lib.run_eql_slice_nil w _ _ a n c n' c' Try.underlying22
  have hmk := run_make_row' (P := Try.prog) 22 5 (.int .u8 0) 1 Try.underlying22 Try.info5 rfl .i64 .i64 len (by omega) (by omega)
  go_enter Try.func8, Try.ntmps8
  go_wp2
  go_loopw [4] (fun i wr => ∃ k : Nat, k ≤ len ∧ i = .int .i64 k ∧ Below w.heap.size w wr ∧ wr.heap.size = w.heap.size + 1 ∧ wr.rowIs w.heap.size 5 len (fun i => if i < k then .int .u8 (zs.getD i 0) else .int .u8 0))
    (fun i _ => len - (intOf i).toNat)
  case atStart => exact ⟨0, Nat.zero_le _, rfl, (Below.refl _ _).alloc (Nat.le_refl _) _, by simp, (World.rowIs_made w (.int .u8 0) len 5).congr (by intro i hi; simp)⟩
  case round =>
    obtain ⟨k, hk, rfl, hbel, hsz, hrow⟩ := hrel
    by_cases hlt : k < len
    · have hcx : wr.cell? ⟨b, off + k, none⟩ = some (.int .u8 (zs.getD k 0)) := (hbel.cell (by exact hb)).trans (hc k hlt)
      have hcy := hrow.cell hlt
      have hfz := hrow.frozen k
      go_wp2
      go_roundw
      case rel =>
        refine ⟨k + 1, by omega, by go_num, hbel.setCell (Nat.le_refl _) _, by simpa using hsz, (hrow.set k _).congr ?_⟩
        intro i hi
        by_cases e : i = k
        · subst e; simp
        · simp only [e, if_false]
          by_cases e2 : i < k
          · rw [if_pos e2, if_pos (by omega)]
          · rw [if_neg e2, if_neg (by omega)]
      case measure => simp [intOf]; omega
    · have : k = len := by omega
      subst this
      go_wp2
      go_ret
      exact ⟨rfl, hbel, hsz, hrow.congr (by intro i hi; simp [hi])⟩

/-- A byte slice that the call itself holds: nil, or a row below block number B that reads as the numbers xs. -/
def ByRow (B : Nat) (w : World) (v : Value) (xs : List Int) : Prop :=
  (v = .slice none 0 0 ∧ xs = []) ∨
  ∃ b, b < B ∧ v = .slice (some ⟨b, 0, none⟩) xs.length xs.length ∧ ∀ i, i < xs.length → w.cell? ⟨b, i, none⟩ = some (.int .u8 (xs.getD i 0))

theorem ByRow.below {B : Nat} {w w' : World} {v : Value} {xs : List Int} (h : ByRow B w v xs) (hb : Below B w w') : ByRow B w' v xs := by
  rcases h with h | ⟨b, hlt, hv, hc⟩
  · exact .inl h
  · exact .inr ⟨b, hlt, hv, fun i hi => (hb.cell (by exact hlt)).trans (hc i hi)⟩

theorem ByRow.mono {B B' : Nat} {w : World} {v : Value} {xs : List Int} (h : ByRow B w v xs) (hb : B ≤ B') : ByRow B' w v xs := by
  rcases h with h | ⟨b, hlt, hv, hc⟩
  · exact .inl h
  · exact .inr ⟨b, by omega, hv, hc⟩

/-- Bytes, and few enough. -/
def Okb (xs : List Int) : Prop := xs.length ≤ 140737488351232 ∧ ∀ n ∈ xs, 0 ≤ n ∧ n ≤ 255

set_option maxHeartbeats 800000 in
theorem same_len (a1 a2 : Option Addr) (n1 n2 c1 c2 : Nat) (w : World) (hne : n1 ≠ n2) :
    Calls Try.prog 16 #[.slice a1 n1 c1, .slice a2 n2 c2] w fun e w' => e = .returned (.bool false) ∧ w' = w := by
  have hd : ((n1 : Int) != (n2 : Int)) = true := by simp; omega
  go_enter Try.func16, Try.ntmps16
  go_wp2
  go_ret
  exact ⟨rfl, rfl⟩

set_option maxHeartbeats 800000 in
theorem same_zero (a1 a2 : Option Addr) (c1 c2 : Nat) (w : World) :
    Calls Try.prog 16 #[.slice a1 0 c1, .slice a2 0 c2] w fun e w' => e = .returned (.bool true) ∧ w' = w := by
  go_enter Try.func16, Try.ntmps16
  go_wp2
  refine wp_loop_rounds 1 ?_
  rw [rounds_succ]
  go_wp2
  go_ret
  exact ⟨rfl, rfl⟩

/-- The two lists agree ahead of k. -/
theorem eq_of_agree {xs ys : List Int} (hl : xs.length = ys.length) (h : ∀ i, i < xs.length → xs.getD i 0 = ys.getD i 0) : xs = ys := by
  apply List.ext_getElem hl
  intro i h1 h2
  have := h i h1
  simpa [List.getD, h1, h2] using this

set_option maxHeartbeats 800000 in
theorem same_some (b1 b2 n c1 c2 : Nat) (xs ys : List Int) (w : World) (hn : n ≤ 140737488351232) (hx : xs.length = n) (hy : ys.length = n)
    (h1 : ∀ i, i < n → w.cell? ⟨b1, i, none⟩ = some (.int .u8 (xs.getD i 0)))
    (h2 : ∀ i, i < n → w.cell? ⟨b2, i, none⟩ = some (.int .u8 (ys.getD i 0))) :
    Calls Try.prog 16 #[.slice (some ⟨b1, 0, none⟩) n c1, .slice (some ⟨b2, 0, none⟩) n c2] w fun e w' => e = .returned (.bool (decide (xs = ys))) ∧ ∃ m, w' = w.drewN m := by
  have hd : ((n : Int) != (n : Int)) = false := by simp
  go_enter Try.func16, Try.ntmps16
  go_wp2
  go_loopw [5] (fun i wr => ∃ k : Nat, k ≤ n ∧ i = .int .i64 k ∧ (∀ j, j < k → xs.getD j 0 = ys.getD j 0) ∧ ∃ m, wr = w.drewN m)
    (fun i _ => n - (intOf i).toNat)
  case atStart => exact ⟨0, Nat.zero_le _, rfl, by omega, 0, rfl⟩
  case round =>
    obtain ⟨k, hk, rfl, hag, m, rfl⟩ := hrel
    have HA : Hid (∀ j, j < k → xs.getD j 0 = ys.getD j 0) := hag
    clear hag
    by_cases hlt : k < n
    · have hlt' : (k : Int) < (n : Int) := by omega
      have h0 : (0 : Int) ≤ (k : Int) := by omega
      have g1 := h1 k hlt
      have g2 := h2 k hlt
      have kx : k < xs.length := by omega
      have ky : k < ys.length := by omega
      go_wp2
      go_quiet (fail)
      go_wp2
      · have hne : (xs[k] != ys[k]) = true := by assumption
        have : ¬ xs = ys := by intro e; subst e; simp at hne
        go_ret
        exact ⟨by simp [this], m + nq, by simp⟩
      · have heq : (xs[k] != ys[k]) = false := by assumption
        have hxy : xs.getD k 0 = ys.getD k 0 := by simp [kx, ky]; simpa using heq
        go_roundw
        case rel =>
          refine ⟨k + 1, by omega, by go_num, ?_, m + nq, by simp⟩
          intro j hj
          by_cases e : j = k
          · subst e; exact hxy
          · exact HA.out j (by omega)
        case measure => simp [intOf]; omega
    · have : k = n := by omega
      subst this
      have he : xs = ys := eq_of_agree (by omega) (fun i hi => HA.out i (by omega))
      have HE : Hid (xs = ys) := he
      clear he
      go_wp2
      go_ret
      exact ⟨by simp [HE.out], _, rfl⟩

/-- zzSameBytes on two byte slices of the call's own. -/
theorem same_any {B : Nat} {w : World} {v1 v2 : Value} {xs ys : List Int} (h1 : ByRow B w v1 xs) (h2 : ByRow B w v2 ys) (hn : xs.length ≤ 140737488351232) :
    Calls Try.prog 16 #[v1, v2] w fun e w' => e = .returned (.bool (decide (xs = ys))) ∧ ∃ m, w' = w.drewN m := by
  have d1 : ∃ a c, v1 = .slice a xs.length c := by
    rcases h1 with ⟨rfl, rfl⟩ | ⟨b, _, rfl, _⟩
    · exact ⟨_, _, rfl⟩
    · exact ⟨_, _, rfl⟩
  have d2 : ∃ a c, v2 = .slice a ys.length c := by
    rcases h2 with ⟨rfl, rfl⟩ | ⟨b, _, rfl, _⟩
    · exact ⟨_, _, rfl⟩
    · exact ⟨_, _, rfl⟩
  obtain ⟨a1, c1, e1⟩ := d1
  obtain ⟨a2, c2, e2⟩ := d2
  by_cases hl : xs.length = ys.length
  · by_cases hz : xs.length = 0
    · have hy0 : ys.length = 0 := by omega
      have : xs = ys := by rw [List.length_eq_zero_iff.1 hz, List.length_eq_zero_iff.1 hy0]
      rw [e1, e2, hz, hy0]
      refine (same_zero a1 a2 c1 c2 w).mono ?_
      rintro e w' ⟨rfl, rfl⟩
      exact ⟨by simp [this], 0, rfl⟩
    · rcases h1 with ⟨_, rfl⟩ | ⟨b1, _, rfl, k1⟩
      · simp at hz
      rcases h2 with ⟨_, rfl⟩ | ⟨b2, _, rfl, k2⟩
      · exact absurd (by simpa using hl) hz
      rw [← hl] at k2 ⊢
      exact same_some b1 b2 xs.length _ _ xs ys w hn rfl hl.symm k1 k2
  · rw [e1, e2]
    refine (same_len a1 a2 _ _ c1 c2 w hl).mono ?_
    rintro e w' ⟨rfl, rfl⟩
    have : ¬ xs = ys := fun e => hl (by rw [e])
    exact ⟨by simp [this], 0, rfl⟩

/-- 'string(v)' of a byte slice of the call's own. -/
theorem conv_any {B : Nat} {w : World} {v : Value} {xs : List Int} (h : ByRow B w v xs) : (convert 22 9 v).run Try.prog w = .ok (.string (strOfNums xs)) w := by
  rcases h with ⟨rfl, rfl⟩ | ⟨b, _, rfl, hc⟩
  · rw [run_convert_bytes_nil w 22 5 Try.underlying22 Try.underlying5 0 0 9 Try.underlying9]
    rfl
  · exact run_convert_bytes_arg w 22 5 Try.underlying22 Try.underlying5 b 0 xs.length xs.length xs rfl (by simpa using hc) 9 Try.underlying9

theorem strOfNums_inj {xs ys : List Int} (hx : ∀ n ∈ xs, 0 ≤ n ∧ n ≤ 255) (hy : ∀ n ∈ ys, 0 ≤ n ∧ n ≤ 255) (h : (strOfNums xs).data.toList = (strOfNums ys).data.toList) : xs = ys := by
  rw [strOfNums_data, strOfNums_data] at h
  have hl : xs.length = ys.length := by simpa using congrArg List.length h
  apply List.ext_getElem hl
  intro i h1 h2
  have e : UInt8.ofNat (xs[i]).toNat = UInt8.ofNat (ys[i]).toNat := by
    have := congrArg (fun l => l[i]?) h
    simpa [h1, h2] using this
  have e' := congrArg UInt8.toNat e
  simp at e'
  have a1 := hx _ (List.getElem_mem h1)
  have a2 := hy _ (List.getElem_mem h2)
  omega

/-- bytes.Equal. -/
theorem equal_any {B : Nat} {w : World} {v1 v2 : Value} {xs ys : List Int} (h1 : ByRow B w v1 xs) (h2 : ByRow B w v2 ys) (hx : ∀ n ∈ xs, 0 ≤ n ∧ n ≤ 255) (hy : ∀ n ∈ ys, 0 ≤ n ∧ n ≤ 255) :
    Calls Try.prog 28 #[v1, v2] w fun e w' => e = .returned (.bool (decide (xs = ys))) ∧ w' = w := by
  have k1 := conv_any h1
  have k2 := conv_any h2
  have hd : ((strOfNums xs).toList == (strOfNums ys).toList) = decide (xs = ys) := by
    by_cases e : xs = ys
    · subst e; simp
    · simp only [e, decide_false, beq_eq_false_iff_ne, ne_eq]
      intro h
      exact e (strOfNums_inj hx hy (by rw [← ByteArray.toList_eq, ← ByteArray.toList_eq]; exact h))
  clear h1 h2 hx hy
  go_enter Try.func28, Try.ntmps28
  go_wp2
  go_ret
  exact ⟨rfl, rfl⟩

end Go.Proofs.Qxb6600256a
