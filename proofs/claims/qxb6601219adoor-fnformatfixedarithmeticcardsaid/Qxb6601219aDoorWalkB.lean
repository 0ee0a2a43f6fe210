/-
  Seat b6601219aD: zzPow10B1, zzSignB1, zzDecB1, zzLowDigitsB1.
-/
import Derived.Test.Qxb6601219aDoorWalkA
import Derived.Deep.OwnRows
namespace Go.Proofs.Qxb6601219aDoor
open Go.RowKit Go.Sort
open Go.Lib (nDigits decDigits dg numDigits_eq nDigits_small nDigits_big decDigits_length nDigits_pos lt_pow_nDigits)

theorem Tryd.info5 : (Tryd.prog.info? 5).map (fun i => (i.zero, i.size, i.bytes)) = some (some (.int .u8 0), 1, 1) := by kernel_rfl

set_option maxHeartbeats 400000 in
/-- zzSignB1. -/
theorem sign_any (neg : Bool) (w : World) : Calls Tryd.prog 8 #[.bool neg] w fun e w' => e = .returned (.string (B (signText neg))) ∧ w' = w := by
  cases neg
  · go_enter Tryd.func8, Tryd.ntmps8
    go_wp2
    go_ret
    exact ⟨rfl, rfl⟩
  · go_enter Tryd.func8, Tryd.ntmps8
    go_wp2
    go_ret
    exact ⟨rfl, rfl⟩

theorem pow_bound {i : Nat} (h : i < 19) : 10 ^ i * 10 < 18446744073709551616 := by
  rw [← Nat.pow_succ]
  have : 10 ^ (i + 1) ≤ 10 ^ 19 := pow_le_of_le (by omega)
  have h2 : (10 : Nat) ^ 19 = 10000000000000000000 := by decide
  omega

set_option maxHeartbeats 400000 in
/-- zzPow10B1. -/
theorem pow_any (k : Nat) (hk : k ≤ 19) (w : World) : Calls Tryd.prog 7 #[.int .i64 k] w fun e w' => e = .returned (.int .u64 ((10 ^ k : Nat) : Int)) ∧ w' = w := by
  obtain ⟨P, hP⟩ : ∃ P : Nat → Nat, P = fun i => 10 ^ i := ⟨_, rfl⟩
  have HP0 : Hid (P 0 = 1 ∧ (∀ i, P (i + 1) = P i * 10) ∧ (∀ i, i < 19 → P i * 10 < 18446744073709551616) ∧ P k = 10 ^ k) := by
    rw [hP]
    exact ⟨rfl, fun i => Nat.pow_succ 10 i, fun i h => pow_bound h, rfl⟩
  rw [← HP0.out.2.2.2]
  clear hP
  go_enter Tryd.func7, Tryd.ntmps7
  go_wp2
  go_loop [3, 4] (fun p i => ∃ j : Nat, j ≤ k ∧ i = .int .i64 j ∧ p = .int .u64 ((P j : Nat) : Int)) (fun _ i => k - (intOf i).toNat)
  case atStart => exact ⟨0, Nat.zero_le _, rfl, by rw [HP0.out.1]; rfl⟩
  case round =>
    obtain ⟨j, hj, rfl, rfl⟩ := hrel
    by_cases hlt : j < k
    · have hb := HP0.out.2.2.1 j (by omega)
      go_wp2
      go_round
      case rel => exact ⟨j + 1, by omega, by go_num, by rw [HP0.out.2.1]; go_num⟩
      case measure => simp [intOf]; omega
    · have : j = k := by omega
      subst this
      go_wp2
      go_ret
      exact ⟨rfl, rfl⟩

/-- 'string(b)' of a row of the call's own. -/
theorem conv_row {b t cap : Nat} {n : Nat} {f : Nat → Value} {W : World} (h : W.rowIs b t n f) (off : Nat) (l : List UInt8) (hl : off + l.length ≤ n) (hf : ∀ j, j < l.length → f (off + j) = .int .u8 ((l.getD j 0).toNat : Int)) :
    (convert 34 9 (.slice (some ⟨b, off, none⟩) l.length cap)).run Tryd.prog W = .ok (.string (B l)) W :=
  run_convert_bytes_back (P := Tryd.prog) W 34 9 5 ⟨b, off, none⟩ cap l Tryd.underlying34 Tryd.underlying5 Tryd.underlying9 (fun j hj => by
    rw [Lib.add_plain, h.cell (by omega), hf j hj]
    simp [List.getD, hj])

/-- What holds ahead of the round in which digit t is written: the digits from place n - t on. -/
def Writ (w wr : World) (T n v t : Nat) : Prop :=
  wr.rowIs w.heap.size T n (fun j => if n - t ≤ j then .int .u8 ((dg v (n - 1 - j)).toNat : Int) else .int .u8 0) ∧ Below w.heap.size w wr

theorem writ_start {w : World} {T n v : Nat} : Writ w (w.alloc (.cells (madeCells #[.int .u8 0] n) T)) T n v 0 := by
  refine ⟨(World.rowIs_made w (.int .u8 0) n T).congr (fun j hj => ?_), (Below.refl _ _).alloc (Nat.le_refl _) _⟩
  rw [if_neg (by omega)]

theorem dg_int (v t : Nat) : ((dg v t).toNat : Int) = 48 + ((v / 10 ^ t : Nat) : Int) % 10 := by
  rw [dg_digit]
  omega

theorem writ_step {w wr : World} {T n v t k : Nat} {x : Int} (h : Writ w wr T n v t) (ht : t < n) (hk : k = n - 1 - t) (hx : x = ((dg v t).toNat : Int)) : Writ w (wr.setCell ⟨w.heap.size, k, none⟩ (.int .u8 x)) T n v (t + 1) := by
  obtain ⟨hr, hb⟩ := h
  refine ⟨(hr.set k _).congr (fun j hj => ?_), hb.setCell (Nat.le_refl _) _⟩
  subst hk hx
  by_cases e : j = n - 1 - t
  · subst e
    rw [if_pos rfl, if_pos (by omega)]
    have e2 : n - 1 - (n - 1 - t) = t := by omega
    rw [e2]
  · rw [if_neg e]
    by_cases e2 : n - t ≤ j
    · rw [if_pos e2, if_pos (by omega)]
    · rw [if_neg e2, if_neg (by omega)]

set_option maxHeartbeats 800000 in
set_option maxRecDepth 100000 in
/-- zzLowDigitsB1. -/
theorem low_any (v k : Nat) (hv : v < 18446744073709551616) (hk : k ≤ 65536) (w : World) : Calls Tryd.prog 11 #[.int .u64 v, .int .i64 k] w fun e w' => e = .returned (.string (B (low v k))) ∧ Below w.heap.size w w' := by
  have hmk := run_make_row' (P := Tryd.prog) 34 5 (.int .u8 0) 1 Tryd.underlying34 Tryd.info5 rfl .i64 .i64 k (by omega) (by omega)
  obtain ⟨V, hV⟩ : ∃ V : Nat → Nat, V = fun t => v / 10 ^ t := ⟨_, rfl⟩
  have HV : Hid (V 0 = v ∧ (∀ t, V (t + 1) = V t / 10) ∧ (∀ t, V t < 18446744073709551616) ∧ ∀ t, V t = v / 10 ^ t) := by
    rw [hV]
    exact ⟨by simp, fun t => by simp only [Nat.pow_succ, Nat.div_div_eq_div_mul], fun t => Nat.lt_of_le_of_lt (Nat.div_le_self _ _) hv, fun t => rfl⟩
  clear hV
  go_enter Tryd.func11, Tryd.ntmps11
  go_wp2
  go_loopw [0, 6] (fun x i wr => ∃ t : Nat, t ≤ k ∧ i = .int .i64 ((k : Int) - 1 - t) ∧ x = .int .u64 ((V t : Nat) : Int) ∧ Writ w wr 5 k v t) (fun _ i _ => (intOf i + 1).toNat)
  case atStart => exact ⟨0, Nat.zero_le _, by simp, by rw [HV.out.1], writ_start⟩
  case round =>
    obtain ⟨t, ht, rfl, rfl, hw⟩ := hrel
    by_cases hlt : t < k
    · have hb := HV.out.2.2.1 t
      obtain ⟨a, ha⟩ : ∃ a : Nat, a = k - 1 - t := ⟨_, rfl⟩
      have hae : (k : Int) - 1 - t = (a : Int) := by omega
      have hak : a < k := by omega
      have hcell := hw.1.cell hak
      have hfz := hw.1.frozen a
      have HS : Hid (Writ w (wr.setCell ⟨w.heap.size, a, none⟩ (.int .u8 (48 + ((V t : Nat) : Int) % 10))) 5 k v (t + 1)) := writ_step hw hlt ha (by rw [dg_int, HV.out.2.2.2])
      rw [hae]
      have HAE : Hid ((k : Int) - 1 - t = (a : Int)) := hae
      clear hae ha hw
      go_wp2
      go_roundw
      case rel => exact ⟨t + 1, by omega, by have := HAE.out; go_num, by rw [HV.out.2.1]; go_num, HS.out⟩
      case measure => simp [intOf]
    · have htk : t = k := by omega
      subst htk
      have hcv := conv_row (cap := t) hw.1 0 (low v t) (by rw [low_length]; omega) (fun j hj => by
        rw [low_length] at hj
        rw [if_pos (by omega), low_get hj, Nat.zero_add])
      rw [low_length] at hcv
      have HB : Hid (Below w.heap.size w wr) := hw.2
      clear hw
      go_wp2
      go_ret
      exact ⟨rfl, HB.out⟩

theorem nDigits_le {k v : Nat} (h : v < 10 ^ (k + 1)) : nDigits v ≤ k + 1 := by
  have : ∀ k v, v < 10 ^ (k + 1) → nDigits v ≤ k + 1 := by
    intro k
    induction k with
    | zero => intro v hv; rw [nDigits_small (by simpa using hv)]; omega
    | succ k ih =>
      intro v hv
      by_cases hv10 : v < 10
      · rw [nDigits_small hv10]; omega
      · rw [nDigits_big hv10]
        have := ih (v / 10) (by
          rw [Nat.div_lt_iff_lt_mul (by omega)]
          rw [Nat.pow_succ] at hv
          exact hv)
        omega
  exact this k v h

/-- Digits are left: more than t of them. -/
theorem more_digits {v t : Nat} (h : 0 < v / 10 ^ t) : t < nDigits v := by
  rcases Nat.lt_or_ge t (nDigits v) with h1 | h1
  · exact h1
  · rw [Nat.div_eq_of_lt (lt_pow h1)] at h
    omega

/-- No digit is left: t is all of them. -/
theorem all_digits {v t : Nat} (h : v / 10 ^ t = 0) (h1 : 1 ≤ t) (h2 : t ≤ nDigits v) : t = nDigits v := by
  have hlt : v < 10 ^ t := by
    rcases Nat.lt_or_ge v (10 ^ t) with h3 | h3
    · exact h3
    · have := Nat.div_pos h3 (Nat.pow_pos (by omega))
      omega
  obtain ⟨k, rfl⟩ : ∃ k, t = k + 1 := ⟨t - 1, by omega⟩
  have := nDigits_le hlt
  omega

set_option maxRecDepth 100000 in
/-- The first digit is written. -/
theorem dec_start (w : World) (v : Nat) (x : Int) (hx : x = 48 + (v : Int) % 10) : Writ w (w.alloc (.cells #[.int .u8 0, .int .u8 0, .int .u8 0, .int .u8 0, .int .u8 0, .int .u8 0, .int .u8 0, .int .u8 0, .int .u8 0, .int .u8 0, .int .u8 0, .int .u8 0, .int .u8 0, .int .u8 0, .int .u8 0, .int .u8 0, .int .u8 0, .int .u8 0, .int .u8 0, .int .u8 x] 33)) 33 20 v 1 := by
  refine ⟨World.rowIs_alloc w _ 33 _ ?_, (Below.refl _ _).alloc (Nat.le_refl _) _⟩
  intro i hi
  have hi' : i < 20 := hi
  by_cases h19 : i = 19
  · subst h19
    rw [if_pos (by omega), dg_int]
    simp [hx]
  · rw [if_neg (by omega)]
    have h : ∀ j : Nat, j < 19 → (#[.int .u8 0, .int .u8 0, .int .u8 0, .int .u8 0, .int .u8 0, .int .u8 0, .int .u8 0, .int .u8 0, .int .u8 0, .int .u8 0, .int .u8 0, .int .u8 0, .int .u8 0, .int .u8 0, .int .u8 0, .int .u8 0, .int .u8 0, .int .u8 0, .int .u8 0, .int .u8 x] : Array Value)[j]? = some (.int .u8 0) := by
      intro j hj
      match j, hj with
      | 0, _ => rfl
      | 1, _ => rfl
      | 2, _ => rfl
      | 3, _ => rfl
      | 4, _ => rfl
      | 5, _ => rfl
      | 6, _ => rfl
      | 7, _ => rfl
      | 8, _ => rfl
      | 9, _ => rfl
      | 10, _ => rfl
      | 11, _ => rfl
      | 12, _ => rfl
      | 13, _ => rfl
      | 14, _ => rfl
      | 15, _ => rfl
      | 16, _ => rfl
      | 17, _ => rfl
      | 18, _ => rfl
      | n + 19, h => omega
    exact h i (by omega)

set_option maxHeartbeats 1600000 in
set_option maxRecDepth 100000 in
/-- zzDecB1. -/
theorem dec_any (v : Nat) (hv : v < 18446744073709551616) (w : World) : Calls Tryd.prog 9 #[.int .u64 v] w fun e w' => e = .returned (.string (B (decDigits v))) ∧ Below w.heap.size w w' := by
  obtain ⟨V, hV⟩ : ∃ V : Nat → Nat, V = fun t => v / 10 ^ t := ⟨_, rfl⟩
  have HV : Hid (V 1 = v / 10 ∧ (∀ t, V (t + 1) = V t / 10) ∧ (∀ t, V t < 18446744073709551616) ∧ ∀ t, V t = v / 10 ^ t) := by
    rw [hV]
    exact ⟨by simp, fun t => by simp only [Nat.pow_succ, Nat.div_div_eq_div_mul], fun t => Nat.lt_of_le_of_lt (Nat.div_le_self _ _) hv, fun t => rfl⟩
  clear hV
  have hnd := nd20 hv
  have hnp := nDigits_pos v
  go_enter Tryd.func9, Tryd.ntmps9
  go_wp2
  go_loopw [0, 4] (fun x i wr => ∃ t : Nat, 1 ≤ t ∧ t ≤ nDigits v ∧ i = .int .i64 (20 - (t : Int)) ∧ x = .int .u64 ((V t : Nat) : Int) ∧ Writ w wr 33 20 v t) (fun _ i _ => (intOf i).toNat)
  case atStart => exact ⟨1, Nat.le_refl _, hnp, rfl, by rw [HV.out.1]; go_num, dec_start w v _ rfl⟩
  case round =>
    obtain ⟨t, ht1, ht, rfl, rfl, hw⟩ := hrel
    have hb := HV.out.2.2.1 t
    by_cases hpos : 0 < V t
    · have hlt : t < nDigits v := more_digits (by rw [← HV.out.2.2.2]; exact hpos)
      obtain ⟨a, ha⟩ : ∃ a : Nat, a = 20 - 1 - t := ⟨_, rfl⟩
      have hae : (20 : Int) - t - 1 = (a : Int) := by omega
      have hak : a < 20 := by omega
      have hcell := hw.1.cell hak
      have hfz := hw.1.frozen a
      have HS : Hid (Writ w (wr.setCell ⟨w.heap.size, a, none⟩ (.int .u8 (48 + ((V t : Nat) : Int) % 10))) 33 20 v (t + 1)) := writ_step hw (by omega) ha (by rw [dg_int, HV.out.2.2.2])
      have HAE : Hid ((20 : Int) - t - 1 = (a : Int)) := hae
      have hta : (20 : Int) - t = (a : Int) + 1 := by omega
      rw [hta]
      have ha1 : (a : Int) + 1 - 1 = (a : Int) := by omega
      clear hae ha hw hta
      go_wp2
      go_roundw
      case rel => exact ⟨t + 1, by omega, by omega, by have := HAE.out; go_num, by rw [HV.out.2.1]; go_num, HS.out⟩
      case measure => simp [intOf]
    · have hz : V t = 0 := by omega
      have htn : t = nDigits v := all_digits (by rw [← HV.out.2.2.2]; exact hz) ht1 ht
      have HT : Hid (t = nDigits v) := htn
      have HB : Hid (Below w.heap.size w wr) := hw.2
      obtain ⟨a, ha⟩ : ∃ a : Nat, a = 20 - t := ⟨_, rfl⟩
      have hae : (20 : Int) - t = (a : Int) := by omega
      have hcv := conv_row (cap := 20 - a) hw.1 a (decDigits v) (by rw [decDigits_length]; omega) (fun j hj => by
        rw [decDigits_length] at hj
        rw [if_pos (by omega), dec_low, low_get hj]
        congr 3
        have : 20 - 1 - (a + j) = nDigits v - 1 - j := by omega
        rw [this])
      rw [decDigits_length, ← htn] at hcv
      have ht20 : t = 20 - a := by omega
      have hsl : ∀ W, (Instr.sliceAt 33 (.pointer (some ⟨w.heap.size, 0, none⟩)) (some (.int .i64 (a : Int))) none none).run Tryd.prog W = .ok (.slice (some ⟨w.heap.size, a, none⟩) t (20 - a)) W := fun W => by
        have hal : Tryd.prog.arrayLen 33 = 20 := by simp [Program.arrayLen, Tryd.underlying33]
        rw [run_sliceAt_array_l W 33 ⟨w.heap.size, 0, none⟩ (by simp [Program.arrayLen, Program.elem, Tryd.underlying33]) .i64 (a : Int) (by omega) (by rw [hal]; omega)]
        have h20 : ¬ 20 = a := by omega
        go_simp
        omega
      rw [hae]
      have hvz : ¬ (0 : Int) < ((V t : Nat) : Int) := by omega
      clear hw htn hz hae ha ht20
      go_wp2
      go_ret
      exact ⟨rfl, HB.out⟩

end Go.Proofs.Qxb6601219aDoor
