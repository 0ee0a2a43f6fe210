/-
  Seat b6002351aF: the decoder: take, u32, u64, bytes, entry.
-/
import Derived.Test.Qxb6002351aFmtBase
import Derived.RegionTactic
import Derived.BigRegion
namespace Go.Proofs.Qxb6002351aFmt
open Go.RowKit

theorem grown_set (w : World) (a : Addr) (u : Value) : w.grownBy (w.setCell a u) (some a.block) :=
  ⟨rfl, rfl, rfl, by simp [World.setCell], fun k _ hne => Below.heap_setCell _ _ _ _ (fun e => hne (by rw [e]))⟩

/-- The decoder's two cells. -/
def dcell (v er : Value) : Nat → Value := fun i => if i = 0 then v else er

set_option maxHeartbeats 800000 in
/-- errors.New. -/
theorem new_any (s : ByteArray) (w : World) : Calls Tryf.prog 26 #[.string s] w fun e w' => ∃ ty u, e = .returned (.iface ty u) ∧ w.grownBy w' none := by
  go_enter Tryf.func26, Tryf.ntmps26
  go_wp2
  go_ret
  exact ⟨_, _, rfl, World.grownBy_alloc _ _ _⟩

set_option maxHeartbeats 800000 in
theorem take_bad (D k : Nat) (v : Value) (ty : TypeId) (u : Value) (w : World) (h : w.rowIs D 51 2 (dcell v (.iface ty u))) :
    Calls Tryf.prog 22 #[.pointer (some ⟨D, 0, none⟩), .int .i64 k] w fun e w' => e = .returned (.slice none 0 0) ∧ w' = w := by
  have c0 := h.cell (i := 0) (by omega)
  have c1 := h.cell (i := 1) (by omega)
  simp only [dcell, if_true, Nat.one_ne_zero, if_false] at c0 c1
  go_enter Tryf.func22, Tryf.ntmps22
  go_wp2
  go_ret
  exact ⟨rfl, rfl⟩

set_option maxHeartbeats 800000 in
theorem take_short (D k : Nat) (a : Option Addr) (n c : Nat) (w : World) (hkn : n < k) (h : w.rowIs D 51 2 (dcell (.slice a n c) .nilIface)) :
    Calls Tryf.prog 22 #[.pointer (some ⟨D, 0, none⟩), .int .i64 k] w fun e w' => e = .returned (.slice none 0 0) ∧ w.grownBy w' (some D) ∧ ∃ ty u, w'.rowIs D 51 2 (dcell (.slice a n c) (.iface ty u)) := by
  have c0 := h.cell (i := 0) (by omega)
  have c1 := h.cell (i := 1) (by omega)
  simp only [dcell, if_true, Nat.one_ne_zero, if_false] at c0 c1
  have hD := h.lt
  go_enter Tryf.func22, Tryf.ntmps22
  go_wp2_with fail
  refine (new_any _ w).mono ?_
  rintro e w1 ⟨ty, u, rfl, hg⟩
  have h1 : w1.rowIs D 51 2 (dcell (.slice a n c) .nilIface) := h.of_block (hg.block D hD (by simp))
  have d1 := h1.cell (i := 1) (by omega)
  simp only [dcell, Nat.one_ne_zero, if_false] at d1
  have z1 := h1.frozen 1
  clear c0 c1
  go_wp2
  go_ret
  refine ⟨rfl, (hg.but _).trans (grown_set _ _ _), ty, u, (h1.set 1 _).congr ?_⟩
  intro i hi
  match i, hi with
  | 0, _ => simp [dcell]
  | 1, _ => simp [dcell]

set_option maxHeartbeats 800000 in
theorem take_ok (D k : Nat) (a : Option Addr) (n c : Nat) (w : World) (hkn : k ≤ n) (hnc : n ≤ c) (h : w.rowIs D 51 2 (dcell (.slice a n c) .nilIface)) :
    Calls Tryf.prog 22 #[.pointer (some ⟨D, 0, none⟩), .int .i64 k] w fun e w' => e = .returned (.slice a k k) ∧ w.grownBy w' (some D) ∧ w'.rowIs D 51 2 (dcell (.slice (if k = c then a else a.map (·.add k)) (n - k) (c - k)) .nilIface) := by
  have c0 := h.cell (i := 0) (by omega)
  have c1 := h.cell (i := 1) (by omega)
  have z0 := h.frozen 0
  simp only [dcell, if_true, Nat.one_ne_zero, if_false] at c0 c1
  have HR : Hid (w.rowIs D 51 2 (dcell (.slice a n c) .nilIface)) := h
  clear h
  have hnk : ¬ n < k := by omega
  by_cases hkc : k = c
  · obtain rfl : n = k := by omega
    subst hkc
    go_enter Tryf.func22, Tryf.ntmps22
    go_wp2
    go_ret
    refine ⟨rfl, grown_set _ _ _, (HR.out.set 0 _).congr ?_⟩
    intro i hi
    match i, hi with
    | 0, _ => simp [dcell]
    | 1, _ => simp [dcell]
  · have hck : ¬ c = k := fun e => hkc e.symm
    go_enter Tryf.func22, Tryf.ntmps22
    go_wp2
    go_ret
    refine ⟨rfl, grown_set _ _ _, (HR.out.set 0 _).congr ?_⟩
    intro i hi
    match i, hi with
    | 0, _ => simp [dcell]
    | 1, _ => simp [dcell]

/-- The decoder at D holds the bytes l still to be read; 'ok': no field was missed yet. -/
def Dc (w : World) (D Bd : Nat) (l : List UInt8) (ok : Bool) : Prop :=
  ∃ a c er, w.rowIs D 51 2 (dcell (.slice a l.length c) er) ∧ l.length ≤ c ∧ Bd ≤ D ∧ Rd Bd w (.slice a l.length c) l ∧ ((ok = true ∧ er = .nilIface) ∨ (ok = false ∧ ∃ ty u, er = .iface ty u))

theorem Dc.lt {w : World} {D Bd : Nat} {l : List UInt8} {ok : Bool} (h : Dc w D Bd l ok) : D < w.heap.size := by
  obtain ⟨a, c, er, h, _⟩ := h
  exact h.lt

theorem Dc.le {w : World} {D Bd : Nat} {l : List UInt8} {ok : Bool} (h : Dc w D Bd l ok) : Bd ≤ D := by
  obtain ⟨a, c, er, _, _, h, _⟩ := h
  exact h

theorem Dc.grown {w w' : World} {D Bd : Nat} {l : List UInt8} {ok : Bool} {row : Option Nat} (h : Dc w D Bd l ok) (hg : w.grownBy w' row) (hr : ∀ j, row = some j → D < j) : Dc w' D Bd l ok := by
  have hlt := h.lt
  obtain ⟨a, c, er, h1, h2, h5, h3, h4⟩ := h
  exact ⟨a, c, er, h1.of_block (hg.block D hlt (by intro e; have := hr D e.symm; omega)), h2, h5, h3.grown hg (by omega) (fun j hj => by have := hr j hj; omega), h4⟩

/-- What a read of k bytes gives. -/
def tk (k : Nat) (l : List UInt8) (ok : Bool) : List UInt8 := if ok = true ∧ k ≤ l.length then l.take k else []
def tl (k : Nat) (l : List UInt8) (ok : Bool) : List UInt8 := if ok = true ∧ k ≤ l.length then l.drop k else l
def tok (k : Nat) (l : List UInt8) (ok : Bool) : Bool := ok && decide (k ≤ l.length)

theorem Rd.take {Bd : Nat} {w : World} {a : Option Addr} {c k : Nat} {l : List UInt8} (h : Rd Bd w (.slice a l.length c) l) (hk : k ≤ l.length) : Rd Bd w (.slice a k k) (l.take k) := by
  obtain ⟨a', c', hv, hc⟩ := h
  obtain ⟨rfl, -, rfl⟩ := Value.slice.inj hv
  have hl : (l.take k).length = k := by rw [List.length_take]; omega
  refine ⟨a, k, by rw [hl], ?_⟩
  rcases hc with rfl | ⟨b, off, rfl, hb, hc⟩
  · left; simp
  · refine .inr ⟨b, off, rfl, hb, fun i hi => ?_⟩
    rw [hl] at hi
    rw [hc i (by omega)]
    simp [List.getD, hi]

theorem Rd.drop {Bd : Nat} {w : World} {a : Option Addr} {c k : Nat} {l : List UInt8} (h : Rd Bd w (.slice a l.length c) l) (hk : k ≤ l.length) (hc : l.length ≤ c) : Rd Bd w (.slice (if k = c then a else a.map (·.add k)) (l.length - k) (c - k)) (l.drop k) := by
  obtain ⟨a', c', hv, hr⟩ := h
  obtain ⟨rfl, -, rfl⟩ := Value.slice.inj hv
  have hl : (l.drop k).length = l.length - k := List.length_drop
  refine ⟨_, c - k, by rw [hl], ?_⟩
  by_cases h0 : k = l.length
  · left; subst h0; simp
  rcases hr with rfl | ⟨b, off, rfl, hb, hr⟩
  · simp at hk h0; omega
  · refine .inr ⟨b, off + k, ?_, hb, fun i hi => ?_⟩
    · rw [if_neg (by omega)]
      show some ((⟨b, off, none⟩ : Addr).add k) = _
      congr 1
      unfold Addr.add; split <;> simp_all
    · rw [hl] at hi
      rw [Nat.add_assoc, hr (k + i) (by omega)]
      simp [List.getD, List.getElem?_drop]

/-- (*decoder).take. -/
theorem take_any (D Bd k : Nat) (l : List UInt8) (ok : Bool) (w : World) (h : Dc w D Bd l ok) :
    Calls Tryf.prog 22 #[.pointer (some ⟨D, 0, none⟩), .int .i64 k] w fun e w' => ∃ v, e = .returned v ∧ Rd Bd w' v (tk k l ok) ∧ Dc w' D Bd (tl k l ok) (tok k l ok) ∧ w.grownBy w' (some D) ∧ (tok k l ok = false → v = .slice none 0 0) := by
  have hlt := h.lt
  obtain ⟨a, c, er, h1, h2, h5, h3, ⟨rfl, rfl⟩ | ⟨rfl, ty, u, rfl⟩⟩ := h
  · by_cases hk : k ≤ l.length
    · have e1 : tk k l true = l.take k := by simp [tk, hk]
      have e2 : tl k l true = l.drop k := by simp [tl, hk]
      have e3 : tok k l true = true := by simp [tok, hk]
      rw [e1, e2, e3]
      refine (take_ok D k a l.length c w hk h2 h1).mono ?_
      rintro e w' ⟨rfl, hg, hrow⟩
      have h3' : Rd Bd w' (.slice a l.length c) l := h3.grown hg (by omega) (fun j hj => by cases hj; exact h5)
      have hl : (l.drop k).length = l.length - k := List.length_drop
      refine ⟨_, rfl, h3'.take hk, ⟨(if k = c then a else a.map (·.add k)), c - k, .nilIface, ?_, ?_, h5, ?_, .inl ⟨rfl, rfl⟩⟩, hg, by simp⟩
      · rw [hl]; exact hrow
      · rw [hl]; omega
      · rw [hl]; exact h3'.drop hk h2
    · have e1 : tk k l true = [] := by simp [tk, hk]
      have e2 : tl k l true = l := by simp [tl, hk]
      have e3 : tok k l true = false := by simp [tok, hk]
      rw [e1, e2, e3]
      refine (take_short D k a l.length c w (by omega) h1).mono ?_
      rintro e w' ⟨rfl, hg, ty, u, hrow⟩
      exact ⟨_, rfl, ⟨none, 0, rfl, .inl rfl⟩, ⟨a, c, _, hrow, h2, h5, h3.grown hg (by omega) (fun j hj => by cases hj; exact h5), .inr ⟨rfl, ty, u, rfl⟩⟩, hg, fun _ => rfl⟩
  · have e1 : tk k l false = [] := by simp [tk]
    have e2 : tl k l false = l := by simp [tl]
    have e3 : tok k l false = false := by simp [tok]
    rw [e1, e2, e3]
    refine (take_bad D k _ ty u w h1).mono ?_
    rintro e w' ⟨rfl, rfl⟩
    exact ⟨_, rfl, ⟨none, 0, rfl, .inl rfl⟩, ⟨a, c, _, h1, h2, h5, h3, .inr ⟨rfl, ty, u, rfl⟩⟩, World.grownBy.refl _ _, fun _ => rfl⟩

set_option maxHeartbeats 800000 in
/-- (*decoder).u32. -/
theorem u32_any (D Bd : Nat) (l : List UInt8) (ok : Bool) (w : World) (h : Dc w D Bd l ok) :
    Calls Tryf.prog 23 #[.pointer (some ⟨D, 0, none⟩)] w fun e w' => e = .returned (.int .u32 ((Lib.beNat (tk 4 l ok) : Nat) : Int)) ∧ Dc w' D Bd (tl 4 l ok) (tok 4 l ok) ∧ w.grownBy w' (some D) := by
  have q22 : ∀ (w : World) (a : Option Addr) (n c n' c' : Nat), (binOp .eql 22 (.slice a n c) (.slice none n' c')).run Tryf.prog w = .ok (.bool a.isNone) w := fun w a n c n' c' => Lib.run_eql_slice_nil w _ _ a n c n' c' Tryf.underlying22
  have H := take_any D Bd 4 l ok w h
  have hl : tok 4 l ok = true → (tk 4 l ok).length = 4 := by
    intro hok
    simp [tok] at hok
    simp [tk, hok]
  have hf : tok 4 l ok = false → tk 4 l ok = [] := by
    intro hok
    simp [tok] at hok
    simp [tk]
    intro k1 k2
    have := hok k1
    omega
  generalize tk 4 l ok = X at H hl hf ⊢
  generalize tl 4 l ok = L at H ⊢
  generalize tok 4 l ok = K at H hl hf ⊢
  obtain ⟨x, hx⟩ : ∃ x, x = Lib.beNat X := ⟨_, rfl⟩
  rw [← hx]
  go_enter Tryf.func23, Tryf.ntmps23
  go_wp2_with fail
  refine H.mono ?_
  clear H
  rintro e w1 ⟨v, rfl, hr, hd, hg, hnil⟩
  have hD1 := hd.lt
  cases K with
  | true =>
    obtain ⟨b0, b1, b2, b3, e4⟩ : ∃ b0 b1 b2 b3, X = [b0, b1, b2, b3] := by
      match X, hl rfl with
      | [b0, b1, b2, b3], _ => exact ⟨b0, b1, b2, b3, rfl⟩
    subst e4
    obtain ⟨a, c, rfl, hc⟩ := hr
    rcases hc with hc | ⟨b, off, rfl, hb, hc⟩
    · cases hc
    have k0 := hc 0 (by simp)
    have k1 := hc 1 (by simp)
    have k2 := hc 2 (by simp)
    have k3 := hc 3 (by simp)
    have HB := Tryf.binary_BE_Uint32 b off 4 c b0 b1 b2 b3 w1 (Nat.le_refl _) (by simpa using k0) (by simpa using k1) (by simpa using k2) (by simpa using k3)
    have HD : Hid (Dc w1 D Bd L true) := hd
    have HG : Hid (w.grownBy w1 (some D)) := hg
    have HX : Hid (x = Lib.beNat [b0, b1, b2, b3]) := hx
    clear hc k0 k1 k2 k3 hnil h hl hf hd hg hx
    go_wp2_with fail
    refine HB.mono ?_
    rintro e w2 ⟨rfl, hbel⟩
    rw [← HX.out]
    go_wp2
    go_ret
    have hg2 := grown_of_below hbel
    exact ⟨rfl, HD.out.grown hg2 (by simp), HG.out.trans (hg2.but _)⟩
  | false =>
    obtain rfl := hnil rfl
    have hX := hf rfl
    subst hX
    have hx0 : x = 0 := by rw [hx]; rfl
    subst hx0
    clear hl hf hx hr hnil
    go_wp2
    go_ret
    exact ⟨rfl, hd, hg⟩

set_option maxHeartbeats 800000 in
/-- (*decoder).u64. -/
theorem u64_any (D Bd : Nat) (l : List UInt8) (ok : Bool) (w : World) (h : Dc w D Bd l ok) :
    Calls Tryf.prog 20 #[.pointer (some ⟨D, 0, none⟩)] w fun e w' => e = .returned (.int .u64 ((Lib.beNat (tk 8 l ok) : Nat) : Int)) ∧ Dc w' D Bd (tl 8 l ok) (tok 8 l ok) ∧ w.grownBy w' (some D) := by
  have q22 : ∀ (w : World) (a : Option Addr) (n c n' c' : Nat), (binOp .eql 22 (.slice a n c) (.slice none n' c')).run Tryf.prog w = .ok (.bool a.isNone) w := fun w a n c n' c' => Lib.run_eql_slice_nil w _ _ a n c n' c' Tryf.underlying22
  have H := take_any D Bd 8 l ok w h
  have hl : tok 8 l ok = true → (tk 8 l ok).length = 8 := by
    intro hok
    simp [tok] at hok
    simp [tk, hok]
  have hf : tok 8 l ok = false → tk 8 l ok = [] := by
    intro hok
    simp [tok] at hok
    simp [tk]
    intro k1 k2
    have := hok k1
    omega
  generalize tk 8 l ok = X at H hl hf ⊢
  generalize tl 8 l ok = L at H ⊢
  generalize tok 8 l ok = K at H hl hf ⊢
  obtain ⟨x, hx⟩ : ∃ x, x = Lib.beNat X := ⟨_, rfl⟩
  rw [← hx]
  go_enter Tryf.func20, Tryf.ntmps20
  go_wp2_with fail
  refine H.mono ?_
  clear H
  rintro e w1 ⟨v, rfl, hr, hd, hg, hnil⟩
  have hD1 := hd.lt
  cases K with
  | true =>
    obtain ⟨b0, b1, b2, b3, b4, b5, b6, b7, e4⟩ : ∃ b0 b1 b2 b3 b4 b5 b6 b7, X = [b0, b1, b2, b3, b4, b5, b6, b7] := by
      match X, hl rfl with
      | [b0, b1, b2, b3, b4, b5, b6, b7], _ => exact ⟨b0, b1, b2, b3, b4, b5, b6, b7, rfl⟩
    subst e4
    obtain ⟨a, c, rfl, hc⟩ := hr
    rcases hc with hc | ⟨b, off, rfl, hb, hc⟩
    · cases hc
    have k0 := hc 0 (by simp)
    have k1 := hc 1 (by simp)
    have k2 := hc 2 (by simp)
    have k3 := hc 3 (by simp)
    have k4 := hc 4 (by simp)
    have k5 := hc 5 (by simp)
    have k6 := hc 6 (by simp)
    have k7 := hc 7 (by simp)
    have HB := Tryf.binary_BE_Uint64 b off 8 c b0 b1 b2 b3 b4 b5 b6 b7 w1 (Nat.le_refl _) (by simpa using k0) (by simpa using k1) (by simpa using k2) (by simpa using k3) (by simpa using k4) (by simpa using k5) (by simpa using k6) (by simpa using k7)
    have HD : Hid (Dc w1 D Bd L true) := hd
    have HG : Hid (w.grownBy w1 (some D)) := hg
    have HX : Hid (x = Lib.beNat [b0, b1, b2, b3, b4, b5, b6, b7]) := hx
    clear hc k0 k1 k2 k3 k4 k5 k6 k7 hnil h hl hf hd hg hx
    go_wp2_with fail
    refine HB.mono ?_
    rintro e w2 ⟨rfl, hbel⟩
    rw [← HX.out]
    go_wp2
    go_ret
    have hg2 := grown_of_below hbel
    exact ⟨rfl, HD.out.grown hg2 (by simp), HG.out.trans (hg2.but _)⟩
  | false =>
    obtain rfl := hnil rfl
    have hX := hf rfl
    subst hX
    have hx0 : x = 0 := by rw [hx]; rfl
    subst hx0
    clear hl hf hx hr hnil
    go_wp2
    go_ret
    exact ⟨rfl, hd, hg⟩

end Go.Proofs.Qxb6002351aFmt
