/-
  Seat b6601219aD: the plain laws on decimal digits: no Go in sight.
-/
import Derived.Lib.ItoaNum
namespace Go.Proofs.Qxb6601219aDoor
open Go.Lib

/-- The last k decimal digits of u, leading zeros included. -/
def low (u k : Nat) : List UInt8 := (List.range k).map fun t => dg u (k - 1 - t)

theorem low_length (u k : Nat) : (low u k).length = k := by simp [low]

theorem low_get {u k t : Nat} (h : t < k) : (low u k).getD t 0 = dg u (k - 1 - t) := by simp [low, h]

theorem dec_low (u : Nat) : decDigits u = low u (nDigits u) := decDigits_eq u

theorem dg_zero {u j : Nat} (h : u < 10 ^ j) : dg u j = 48 := by
  unfold dg
  rw [Nat.div_eq_of_lt h]
  rfl

theorem dg_digit (u j : Nat) : (dg u j).toNat = 48 + u / 10 ^ j % 10 := by
  unfold dg
  have h := Nat.mod_lt (u / 10 ^ j) (show 0 < 10 by omega)
  rw [UInt8.toNat_ofNat']
  omega

/-- One leading digit more. -/
theorem low_succ (u k : Nat) : low u (k + 1) = dg u k :: low u k := by
  unfold low
  rw [List.range_succ_eq_map, List.map_cons, List.map_map]
  congr 1
  apply List.map_congr_left
  intro t ht
  simp at ht
  simp only [Function.comp]
  congr 1
  omega

/-- Leading zeros. -/
theorem low_pad {u k : Nat} (h : u < 10 ^ k) : low u (k + 1) = 48 :: low u k := by rw [low_succ, dg_zero h]

theorem pow_le_of_le {a b : Nat} (h : a ≤ b) : 10 ^ a ≤ 10 ^ b := Nat.pow_le_pow_right (by omega) h

theorem lt_pow {u k : Nat} (h : nDigits u ≤ k) : u < 10 ^ k := Nat.lt_of_lt_of_le (lt_pow_nDigits u) (pow_le_of_le h)

/-- The last places digits. -/
theorem low_drop (u a b : Nat) : (low u (a + b)).drop a = low u b := by
  apply List.ext_getElem
  · simp [low_length]
  · intro i h1 h2
    simp [low]
    congr 1
    omega

theorem dg_div (u a j : Nat) : dg u (a + j) = dg (u / 10 ^ a) j := by
  unfold dg
  rw [Nat.pow_add, Nat.div_div_eq_div_mul]

/-- The digits ahead of them. -/
theorem low_take (u a b : Nat) : (low u (a + b)).take a = low (u / 10 ^ b) a := by
  apply List.ext_getElem
  · simp [low_length]
  · intro i h1 h2
    simp [low_length] at h2
    simp [low]
    rw [← dg_div]
    congr 1
    omega

/-- Whole digits and decimals: how many digits the whole part has. -/
theorem nDigits_div {u p L : Nat} (hL : L = max (nDigits u) (p + 1)) : nDigits (u / 10 ^ p) = L - p := by
  by_cases h : nDigits u ≤ p + 1
  · have hLp : L = p + 1 := by omega
    have hu : u < 10 ^ (p + 1) := lt_pow h
    have hq : u / 10 ^ p < 10 := by
      rw [Nat.div_lt_iff_lt_mul (Nat.pow_pos (by omega))]
      rw [Nat.pow_succ] at hu
      omega
    rw [nDigits_small hq]
    omega
  · have hLn : L = nDigits u := by omega
    -- 10^(nd-1) ≤ u < 10^nd
    have hlo : 10 ^ (nDigits u - 1) ≤ u := by
      rcases Nat.lt_or_ge u (10 ^ (nDigits u - 1)) with hlt | hge
      · exfalso
        have hsm : nDigits u ≤ nDigits u - 1 := by
          have : ∀ k v, v < 10 ^ (k + 1) → nDigits v ≤ k + 1 := by
            intro k
            induction k with
            | zero => intro v hv; rw [nDigits_small (by simpa using hv)]; omega
            | succ k ih =>
              intro v hv
              by_cases hv10 : v < 10
              · rw [nDigits_small hv10]; omega
              · rw [nDigits_big hv10]
                have := ih (v / 10) (by
                  rw [Nat.div_lt_iff_lt_mul (by omega)]
                  rw [Nat.pow_succ] at hv
                  exact hv)
                omega
          obtain ⟨k, hk⟩ : ∃ k, nDigits u - 1 = k + 1 := ⟨nDigits u - 2, by omega⟩
          have := this k u (by rw [← hk]; exact hlt)
          omega
        omega
      · exact hge
    have hhi := lt_pow_nDigits u
    obtain ⟨k, hk⟩ : ∃ k, nDigits u = p + (k + 1) := ⟨nDigits u - p - 1, by omega⟩
    have h1 : 10 ^ k ≤ u / 10 ^ p := by
      rw [Nat.le_div_iff_mul_le (Nat.pow_pos (by omega)), ← Nat.pow_add]
      have : k + p = nDigits u - 1 := by omega
      rw [this]; exact hlo
    have h2 : u / 10 ^ p < 10 ^ (k + 1) := by
      rw [Nat.div_lt_iff_lt_mul (Nat.pow_pos (by omega)), ← Nat.pow_add]
      have : k + 1 + p = nDigits u := by omega
      rw [this]; exact hhi
    rw [nDigits_unique k _ h1 h2]
    omega

/-- The first digit of a numeral of two digits or more is not '0'. -/
theorem dec_head {q : Nat} (h : 1 < nDigits q) : dg q (nDigits q - 1) ≠ 48 := by
  have hlo : 10 ^ (nDigits q - 1) ≤ q := by
    rcases Nat.lt_or_ge q (10 ^ (nDigits q - 1)) with hlt | hge
    · exfalso
      have hL := nDigits_div (u := q) (p := nDigits q - 1) (L := nDigits q) (by omega)
      rw [Nat.div_eq_of_lt hlt, nDigits_small (by omega)] at hL
      have h2 := nDigits_div (u := q) (p := nDigits q - 2) (L := nDigits q) (by omega)
      have hq10 : q / 10 ^ (nDigits q - 2) < 10 := by
        rw [Nat.div_lt_iff_lt_mul (Nat.pow_pos (by omega))]
        have : nDigits q - 1 = (nDigits q - 2) + 1 := by omega
        rw [this, Nat.pow_succ] at hlt
        omega
      rw [nDigits_small hq10] at h2
      omega
    · exact hge
  intro e
  have hd := dg_digit q (nDigits q - 1)
  rw [e] at hd
  have h48 : (48 : UInt8).toNat = 48 := rfl
  rw [h48] at hd
  have h1 : 1 ≤ q / 10 ^ (nDigits q - 1) := by
    rw [Nat.le_div_iff_mul_le (Nat.pow_pos (by omega))]; omega
  have h2 : q / 10 ^ (nDigits q - 1) < 10 := by
    rw [Nat.div_lt_iff_lt_mul (Nat.pow_pos (by omega))]
    have := lt_pow_nDigits q
    have e2 : 10 ^ nDigits q = 10 * 10 ^ (nDigits q - 1) := by
      have : nDigits q = (nDigits q - 1) + 1 := by omega
      rw [this, Nat.pow_succ]
      simp
      omega
    omega
  omega

/-- Reading digits onto v. -/
def accum (v : Nat) (l : List UInt8) : Nat := l.foldl (fun v c => v * 10 + (c.toNat - 48)) v

theorem accum_nil (v : Nat) : accum v [] = v := rfl
theorem accum_snoc (v : Nat) (l : List UInt8) (c : UInt8) : accum v (l ++ [c]) = accum v l * 10 + (c.toNat - 48) := by simp [accum, List.foldl_append]
theorem accum_cons (v : Nat) (l : List UInt8) (c : UInt8) : accum v (c :: l) = accum (v * 10 + (c.toNat - 48)) l := by unfold accum; rw [List.foldl_cons]

theorem accum_mono (l : List UInt8) : ∀ v, v ≤ accum v l := by
  induction l with
  | nil => intro v; exact Nat.le_refl _
  | cons c r ih => intro v; rw [accum_cons]; have := ih (v * 10 + (c.toNat - 48)); omega

theorem accum_append (v : Nat) (l l' : List UInt8) : accum v (l ++ l') = accum (accum v l) l' := by simp [accum, List.foldl_append]

theorem accum_take_le (v : Nat) (l : List UInt8) (k : Nat) : accum v (l.take k) ≤ accum v l := by
  have h := accum_mono (l.drop k) (accum v (l.take k))
  rw [← accum_append, List.take_append_drop] at h
  exact h

theorem accum_low (u : Nat) : ∀ (k v : Nat), accum v (low u k) = v * 10 ^ k + u % 10 ^ k := by
  intro k
  induction k with
  | zero => intro v; simp [low, accum, Nat.mod_one]
  | succ k ih =>
    intro v
    rw [low_succ, accum_cons, ih, dg_digit]
    have h1 : u % 10 ^ (k + 1) = u % 10 ^ k + 10 ^ k * (u / 10 ^ k % 10) := by rw [Nat.pow_succ, Nat.mod_mul]
    rw [h1, Nat.pow_succ]
    have h2 : 48 + u / 10 ^ k % 10 - 48 = u / 10 ^ k % 10 := by omega
    rw [h2]
    generalize 10 ^ k = m
    generalize u / m % 10 = d
    generalize u % m = r
    rw [Nat.add_mul, Nat.mul_assoc, Nat.mul_comm 10 m, Nat.mul_comm m d]
    omega

theorem accum_dec (u : Nat) : accum 0 (decDigits u) = u := by
  rw [dec_low, accum_low, Nat.mod_eq_of_lt (lt_pow_nDigits u)]
  omega

/-- Every byte of low is a digit. -/
theorem low_digits (u k : Nat) : ∀ c ∈ low u k, 48 ≤ c.toNat ∧ c.toNat ≤ 57 := by
  intro c hc
  obtain ⟨t, _, rfl⟩ := List.mem_map.1 hc
  have := dg_digit u (k - 1 - t)
  have := Nat.mod_lt (u / 10 ^ (k - 1 - t)) (show 0 < 10 by omega)
  omega

end Go.Proofs.Qxb6601219aDoor
