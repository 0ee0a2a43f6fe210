/-
  Seat b6600256a: zzClone, zzCloneAll on what came in; zzBytes_..; ZZNewNames; ZZRepeats.
-/
import Derived.Test.Qxb6600256aFull
namespace Go.Proofs.Qxb6600256a
open Go.RowKit Go.Maps Go.WideMaps

/-- A byte slice that came in: nil, or a row below block number B that reads as xs. -/
def InB (B : Nat) (w : World) (v : Value) (xs : List Int) : Prop :=
  (v = .slice none 0 0 ∧ xs = []) ∨
  ∃ x cap, v = .slice (some x) xs.length cap ∧ ∀ i, i < xs.length → x.block < B ∧ w.cell? (x.add i) = some (.int .u8 (xs.getD i 0))

theorem InB.below {B : Nat} {w w' : World} {v : Value} {xs : List Int} (h : InB B w v xs) (hb : Below B w w') : InB B w' v xs := by
  rcases h with h | ⟨x, cap, hv, hc⟩
  · exact .inl h
  · refine .inr ⟨x, cap, hv, fun i hi => ⟨(hc i hi).1, ?_⟩⟩
    have hlt : (x.add i).block < B := by
      have : (x.add i).block = x.block := by unfold Addr.add; split <;> rfl
      rw [this]; exact (hc i hi).1
    exact (hb.cell hlt).trans (hc i hi).2

/-- A byte slice that the call has made, from block number lo on. -/
def NewB (lo : Nat) (w : World) (v : Value) (xs : List Int) : Prop :=
  (v = .slice none 0 0 ∧ xs = []) ∨
  ∃ b, lo ≤ b ∧ b < w.heap.size ∧ v = .slice (some ⟨b, 0, none⟩) xs.length xs.length ∧ ∀ i, i < xs.length → w.cell? ⟨b, i, none⟩ = some (.int .u8 (xs.getD i 0))

theorem NewB.row {lo B : Nat} {w : World} {v : Value} {xs : List Int} (h : NewB lo w v xs) (hB : w.heap.size ≤ B) : ByRow B w v xs := by
  rcases h with h | ⟨b, _, hlt, hv, hc⟩
  · exact .inl h
  · exact .inr ⟨b, by omega, hv, hc⟩

theorem NewB.below {lo : Nat} {w w' : World} {v : Value} {xs : List Int} (h : NewB lo w v xs) (hb : Below w.heap.size w w') : NewB lo w' v xs := by
  rcases h with h | ⟨b, hlo, hlt, hv, hc⟩
  · exact .inl h
  · exact .inr ⟨b, hlo, Nat.lt_of_lt_of_le hlt hb.size, hv, fun i hi => (hb.cell (by exact hlt)).trans (hc i hi)⟩

theorem NewB.setCell {lo : Nat} {w : World} {v : Value} {xs : List Int} (h : NewB lo w v xs) {a : Addr} (ha : a.block < lo) (u : Value) : NewB lo (w.setCell a u) v xs := by
  rcases h with h | ⟨b, hlo, hlt, hv, hc⟩
  · exact .inl h
  · refine .inr ⟨b, hlo, by simpa using hlt, hv, fun i hi => ?_⟩
    rw [World.cell?_setCell_other]
    · exact hc i hi
    · intro e; rw [e] at ha; simp at ha; omega

theorem NewB.lo {lo lo' : Nat} {w : World} {v : Value} {xs : List Int} (h : NewB lo w v xs) (hl : lo' ≤ lo) : NewB lo' w v xs := by
  rcases h with h | ⟨b, hlo, r⟩
  · exact .inl h
  · exact .inr ⟨b, by omega, r⟩

theorem add_plain (b off j : Nat) : (⟨b, off, none⟩ : Addr).add j = ⟨b, off + j, none⟩ := by unfold Addr.add; split <;> simp_all

/-- zzClone. -/
theorem clone_any {B : Nat} {w : World} {v : Value} {xs : List Int} (h : InB B w v xs) (hB : B ≤ w.heap.size) (hx : xs.length ≤ 140737488351232) :
    Calls Try.prog 8 #[v] w fun e w' => ∃ v', e = .returned v' ∧ NewB w.heap.size w' v' xs ∧ Below w.heap.size w w' := by
  rcases h with ⟨rfl, rfl⟩ | ⟨x, cap, rfl, hc⟩
  · refine (clone_nil w).mono ?_
    rintro e w' ⟨rfl, rfl⟩
    exact ⟨_, rfl, .inl ⟨rfl, rfl⟩, Below.refl _ _⟩
  · rcases Nat.eq_zero_or_pos xs.length with h0 | h0
    · rw [h0]
      have : xs = [] := List.length_eq_zero_iff.1 h0
      subst this
      refine (clone_empty x cap w).mono ?_
      rintro e w' ⟨rfl, rfl⟩
      exact ⟨_, rfl, .inr ⟨w.heap.size, Nat.le_refl _, by simp, rfl, fun i hi => by simp at hi⟩, (Below.refl _ _).alloc (Nat.le_refl _) _⟩
    · obtain ⟨b, off, spot⟩ := x
      have h00 := (hc 0 h0).2
      have hspot : spot = none := by simpa [Addr.add] using World.cell?_spot h00
      subst hspot
      refine (clone_some b off xs.length cap xs w hx (by have := (hc 0 h0).1; simp at this; omega) (fun j hj => by rw [← add_plain]; exact (hc j hj).2)).mono ?_
      rintro e w' ⟨rfl, hbel, hsz, hrow⟩
      exact ⟨_, rfl, .inr ⟨w.heap.size, Nat.le_refl _, by omega, rfl, fun i hi => hrow.cell hi⟩, hbel⟩

/-- A script that came in. -/
def InS (B : Nat) (w : World) (v : Value) (xss : List (List Int)) : Prop :=
  (v = .slice none 0 0 ∧ xss = []) ∨
  ∃ x cap, v = .slice (some x) xss.length cap ∧ ∀ r, r < xss.length → x.block < B ∧ ∃ a n c, w.cell? (x.add r) = some (.slice a n c) ∧ n = (xss.getD r []).length ∧ InB B w (.slice a n c) (xss.getD r [])

/-- A script of the call's own. -/
def OwnS (B : Nat) (w : World) (v : Value) (xss : List (List Int)) : Prop :=
  (v = .slice none 0 0 ∧ xss = []) ∨
  ∃ b, b < B ∧ v = .slice (some ⟨b, 0, none⟩) xss.length xss.length ∧ ∀ r, r < xss.length → ∃ a n c, w.cell? ⟨b, r, none⟩ = some (.slice a n c) ∧ ByRow B w (.slice a n c) (xss.getD r [])

theorem OwnS.below {B : Nat} {w w' : World} {v : Value} {xss : List (List Int)} (h : OwnS B w v xss) (hb : Below B w w') : OwnS B w' v xss := by
  rcases h with h | ⟨b, hlt, hv, hc⟩
  · exact .inl h
  · refine .inr ⟨b, hlt, hv, fun r hr => ?_⟩
    obtain ⟨a, n, c, h1, h2⟩ := hc r hr
    exact ⟨a, n, c, (hb.cell (by exact hlt)).trans h1, h2.below hb⟩

theorem OwnS.mono {B B' : Nat} {w : World} {v : Value} {xss : List (List Int)} (h : OwnS B w v xss) (hB : B ≤ B') : OwnS B' w v xss := by
  rcases h with h | ⟨b, hlt, hv, hc⟩
  · exact .inl h
  · refine .inr ⟨b, by omega, hv, fun r hr => ?_⟩
    obtain ⟨a, n, c, h1, h2⟩ := hc r hr
    exact ⟨a, n, c, h1, h2.mono hB⟩

set_option maxHeartbeats 400000 in
theorem cloneAll_nil (w : World) : Calls Try.prog 14 #[.slice none 0 0] w fun e w' => e = .returned (.slice none 0 0) ∧ w' = w := by
  have q30 : ∀ (w : World) (a : Option Addr) (n c n' c' : Nat), (binOp .eql 30 (.slice a n c) (.slice none n' c')).run Try.prog w = .ok (.bool a.isNone) w := fun w a n c n' c' => Lib.run_eql_slice_nil w _ _ a n c n' c' Try.underlying30
  go_enter Try.func14, Try.ntmps14
  go_wp2
  go_ret
  exact ⟨rfl, rfl⟩

set_option maxHeartbeats 400000 in
theorem cloneAll_empty (x : Addr) (cap : Nat) (w : World) : Calls Try.prog 14 #[.slice (some x) 0 cap] w fun e w' => e = .returned (.slice (some ⟨w.heap.size, 0, none⟩) 0 0) ∧ w' = w.alloc (.cells (madeCells #[.slice none 0 0] 0) 22) := by
  have q30 : ∀ (w : World) (a : Option Addr) (n c n' c' : Nat), (binOp .eql 30 (.slice a n c) (.slice none n' c')).run Try.prog w = .ok (.bool a.isNone) w := fun w a n c n' c' => Lib.run_eql_slice_nil w _ _ a n c n' c' Try.underlying30
  have hmk := run_make_row' (P := Try.prog) 30 22 (.slice none 0 0) 24 Try.underlying30 Try.info22 rfl .i64 .i64 0 (by omega) (by omega)
  simp only [Int.ofNat_zero] at hmk
  go_enter Try.func14, Try.ntmps14
  go_wp2
  refine wp_loop_rounds 1 ?_
  rw [rounds_succ]
  go_wp2
  go_ret
  exact ⟨rfl, rfl⟩

/-- What holds ahead of round k of zzCloneAll. -/
def Copied (w wr : World) (n k : Nat) (xss : List (List Int)) : Prop :=
  ∃ g, wr.rowIs w.heap.size 22 n g ∧ (∀ r, r < n → ∃ a m c, g r = .slice a m c) ∧ (∀ r, r < k → NewB (w.heap.size + 1) wr (g r) (xss.getD r [])) ∧ Below w.heap.size w wr ∧ w.heap.size + 1 ≤ wr.heap.size

theorem copied_step {w wr w' : World} {n k : Nat} {xss : List (List Int)} {a : Option Addr} {m c : Nat} (h : Copied w wr n k xss) (hnew : NewB wr.heap.size w' (.slice a m c) (xss.getD k [])) (hb : Below wr.heap.size wr w') :
    Copied w (w'.setCell ⟨w.heap.size, k, none⟩ (.slice a m c)) n (k + 1) xss := by
  obtain ⟨g, hrow, hsh, hby, hbel, hsz⟩ := h
  have hlt := hrow.lt
  refine ⟨_, (hrow.of_block (hb.block _ hlt)).set k _, ?_, ?_, (hbel.trans (hb.mono (by omega))).setCell (Nat.le_refl _) _, by have := hb.size; simp; omega⟩
  · intro r hr
    by_cases e : r = k
    · exact ⟨a, m, c, by simp [e]⟩
    · obtain ⟨a', m', c', e'⟩ := hsh r hr
      exact ⟨a', m', c', by simp [e, e']⟩
  · intro r hr
    by_cases e : r = k
    · subst e
      simp only [if_true]
      exact (hnew.lo hsz).setCell (by simp) _
    · simp only [e, if_false]
      exact ((hby r (by omega)).below hb).setCell (by simp) _

set_option maxHeartbeats 800000 in
theorem cloneAll_some (b off cap : Nat) (xss : List (List Int)) (w : World) (hn : xss.length ≤ 1048576) (hb : b < w.heap.size) (hx : ∀ y ∈ xss, y.length ≤ 140737488351232)
    (hc : ∀ r, r < xss.length → ∃ a n c, w.cell? ⟨b, off + r, none⟩ = some (.slice a n c) ∧ InB w.heap.size w (.slice a n c) (xss.getD r [])) :
    Calls Try.prog 14 #[.slice (some ⟨b, off, none⟩) xss.length cap] w fun e w' => e = .returned (.slice (some ⟨w.heap.size, 0, none⟩) xss.length xss.length) ∧ Copied w w' xss.length xss.length xss := by
  have q30 : ∀ (w : World) (a : Option Addr) (n c n' c' : Nat), (binOp .eql 30 (.slice a n c) (.slice none n' c')).run Try.prog w = .ok (.bool a.isNone) w := fun w a n c n' c' => Lib.run_eql_slice_nil w _ _ a n c n' c' Try.underlying30
  obtain ⟨n, hnn⟩ : ∃ n, n = xss.length := ⟨_, rfl⟩
  rw [← hnn] at hn hc ⊢
  have HN : Hid (n = xss.length) := hnn
  clear hnn
  have hmk := run_make_row' (P := Try.prog) 30 22 (.slice none 0 0) 24 Try.underlying30 Try.info22 rfl .i64 .i64 n (by omega) (by omega)
  go_enter Try.func14, Try.ntmps14
  go_wp2
  go_loopw [4] (fun i wr => ∃ k : Nat, k ≤ n ∧ i = .int .i64 k ∧ Copied w wr n k xss)
    (fun i _ => n - (intOf i).toNat)
  case atStart => exact ⟨0, Nat.zero_le _, rfl, _, World.rowIs_made w (.slice none 0 0) n 22, fun r hr => ⟨_, _, _, rfl⟩, fun r hr => by omega, (Below.refl _ _).alloc (Nat.le_refl _) _, by simp⟩
  case round =>
    obtain ⟨k, hk, rfl, hcop⟩ := hrel
    by_cases hlt : k < n
    · obtain ⟨ak, nk, ck, hcell, hin⟩ := hc k hlt
      have hbel : Below w.heap.size w wr := by obtain ⟨_, _, _, _, h, _⟩ := hcop; exact h
      have hcx : wr.cell? ⟨b, off + k, none⟩ = some (.slice ak nk ck) := (hbel.cell (by exact hb)).trans hcell
      have hin' := hin.below hbel
      have hlen : (xss.getD k []).length ≤ 140737488351232 := hx _ (getD_mem (by rw [← HN.out]; exact hlt))
      clear hcell hin
      go_wp2_with fail
      refine (clone_any hin' hbel.size hlen).mono ?_
      rintro e w' ⟨v', rfl, hnew, hbel'⟩
      obtain ⟨a', n', c', hv'⟩ : ∃ a n c, v' = .slice a n c := by
        rcases hnew with ⟨e, _⟩ | ⟨_, _, _, e, _⟩
        · exact ⟨_, _, _, e⟩
        · exact ⟨_, _, _, e⟩
      rw [hv'] at hnew ⊢
      have hcop' := copied_step hcop hnew hbel'
      have HC : Hid (Copied w (w'.setCell ⟨w.heap.size, k, none⟩ (.slice a' n' c')) n (k + 1) xss) := hcop'
      clear hcop'
      have hcy : ∃ u, w'.cell? ⟨w.heap.size, k, none⟩ = some u := by
        obtain ⟨g, hrow, _⟩ := hcop
        exact ⟨_, (hrow.of_block (hbel'.block _ hrow.lt)).cell hlt⟩
      have hfz : w'.frozen? ⟨w.heap.size, k, none⟩ = false := by
        obtain ⟨g, hrow, _⟩ := hcop
        exact (hrow.of_block (hbel'.block _ hrow.lt)).frozen k
      obtain ⟨u, hcy⟩ := hcy
      clear hcop hnew hbel' hv'
      go_wp2
      go_roundw
      case rel => exact ⟨k + 1, by omega, by go_num, HC.out⟩
      case measure => simp [intOf]; omega
    · have : k = n := by omega
      subst this
      go_wp2
      go_ret
      exact ⟨rfl, hcop⟩

/-- zzCloneAll. -/
theorem cloneAll_any {w : World} {v : Value} {xss : List (List Int)} (h : InS w.heap.size w v xss) (hn : xss.length ≤ 1048576) (hx : ∀ y ∈ xss, y.length ≤ 140737488351232) :
    Calls Try.prog 14 #[v] w fun e w' => ∃ v', e = .returned v' ∧ OwnS w'.heap.size w' v' xss ∧ Below w.heap.size w w' := by
  rcases h with ⟨rfl, rfl⟩ | ⟨x, cap, rfl, hc⟩
  · refine (cloneAll_nil w).mono ?_
    rintro e w' ⟨rfl, rfl⟩
    exact ⟨_, rfl, .inl ⟨rfl, rfl⟩, Below.refl _ _⟩
  · rcases Nat.eq_zero_or_pos xss.length with h0 | h0
    · rw [h0]
      have : xss = [] := List.length_eq_zero_iff.1 h0
      subst this
      refine (cloneAll_empty x cap w).mono ?_
      rintro e w' ⟨rfl, rfl⟩
      exact ⟨_, rfl, .inr ⟨w.heap.size, by simp, rfl, fun i hi => by simp at hi⟩, (Below.refl _ _).alloc (Nat.le_refl _) _⟩
    · obtain ⟨b, off, spot⟩ := x
      obtain ⟨hb0, a0, n0, c0, h00, _⟩ := hc 0 h0
      have hspot : spot = none := by simpa [Addr.add] using World.cell?_spot h00
      subst hspot
      refine (cloneAll_some b off cap xss w hn (by simpa using hb0) hx (fun r hr => by
        obtain ⟨_, a, n, c, h1, _, h2⟩ := hc r hr
        exact ⟨a, n, c, by rw [← add_plain]; exact h1, h2⟩)).mono ?_
      rintro e w' ⟨rfl, g, hrow, hsh, hby, hbel, hsz⟩
      refine ⟨_, rfl, .inr ⟨w.heap.size, by omega, rfl, fun r hr => ?_⟩, hbel⟩
      obtain ⟨a, m, c, e⟩ := hsh r hr
      have h1 := hrow.cell hr
      have h2 := hby r hr
      rw [e] at h1 h2
      exact ⟨a, m, c, h1, h2.row (Nat.le_refl _)⟩

/-- The names, wherever they lie. -/
def Names (S : Nat) (w : World) (st : List (List Int)) : Prop := Few S w st ∨ Many S w st

theorem repeats_any {S : Nat} {w : World} {st : List (List Int)} {a : Option Addr} {n c : Nat} {xs : List Int} (h : Names S w st) (hst : ∀ y ∈ st, Okb y) (hv : ByRow S w (.slice a n c) xs) (hx : Okb xs) (hlen : st.length < 1099511627776) :
    Calls Try.prog 22 #[.pointer (some ⟨S, 0, none⟩), .slice a n c] w fun e w' => e = .returned (.bool (hasN st xs)) ∧ Names S w' (addN st xs) ∧ Below S w w' := by
  rcases h with h | h
  · by_cases h16 : st.length < 16
    · refine (few_any S w st a n c xs h hst hv hx h16).mono ?_
      rintro e w' ⟨rfl, h1, h2⟩
      exact ⟨rfl, .inl h1, h2⟩
    · exact full_any S w st a n c xs h hst hv hx (by have := h.1; omega)
  · by_cases hin : xs ∈ st
    · refine (many_old S w st _ xs h hst hv hx hin).mono ?_
      rintro e w' ⟨rfl, h1, h2⟩
      rw [hasN_in hin, addN_in hin]
      exact ⟨rfl, .inr h1, h2⟩
    · refine (many_new S w st _ xs h hst hv hx hin hlen).mono ?_
      rintro e w' ⟨rfl, h1, h2⟩
      rw [hasN_new hin, addN_new hin]
      exact ⟨rfl, .inr h1, h2⟩

set_option maxHeartbeats 400000 in
/-- ZZRepeats. -/
theorem zzrepeats_any {S : Nat} {w : World} {st : List (List Int)} {a : Option Addr} {n c : Nat} {xs : List Int} (h : Names S w st) (hst : ∀ y ∈ st, Okb y) (hv : ByRow S w (.slice a n c) xs) (hx : Okb xs) (hlen : st.length < 1099511627776) :
    Calls Try.prog 17 #[.pointer (some ⟨S, 0, none⟩), .slice a n c] w fun e w' => e = .returned (.bool (hasN st xs)) ∧ Names S w' (addN st xs) ∧ Below S w w' := by
  go_enter Try.func17, Try.ntmps17
  go_wp2_with fail
  refine (repeats_any h hst hv hx hlen).mono ?_
  rintro e w' ⟨rfl, h1, h2⟩
  clear h hst hv hx hlen
  go_wp2
  go_ret
  exact ⟨rfl, h1, h2⟩

/-- What ZZNewNames lays: no name yet. -/
theorem new_few (w : World) : Few w.heap.size (w.alloc (.cells #[.slice none 0 0, .slice none 0 0, .slice none 0 0, .slice none 0 0, .slice none 0 0, .slice none 0 0, .slice none 0 0, .slice none 0 0, .slice none 0 0, .slice none 0 0, .slice none 0 0, .slice none 0 0, .slice none 0 0, .slice none 0 0, .slice none 0 0, .slice none 0 0, .int .i64 0, .map none] 43)) [] := by
  refine ⟨by simp, fun i => if i = 16 then .int .i64 0 else if i = 17 then .map none else .slice none 0 0, ?_, rfl, rfl, fun i hi => by simp at hi⟩
  refine World.rowIs_alloc w _ 43 _ ?_
  intro i hi
  have hi' : i < 18 := hi
  match i, hi' with
  | 0, _ => rfl
  | 1, _ => rfl
  | 2, _ => rfl
  | 3, _ => rfl
  | 4, _ => rfl
  | 5, _ => rfl
  | 6, _ => rfl
  | 7, _ => rfl
  | 8, _ => rfl
  | 9, _ => rfl
  | 10, _ => rfl
  | 11, _ => rfl
  | 12, _ => rfl
  | 13, _ => rfl
  | 14, _ => rfl
  | 15, _ => rfl
  | 16, _ => rfl
  | 17, _ => rfl
  | n + 18, h => omega

set_option maxHeartbeats 400000 in
/-- ZZNewNames. -/
theorem new_any (w : World) : Calls Try.prog 15 #[] w fun e w' => e = .returned (.pointer (some ⟨w.heap.size, 0, none⟩)) ∧ Names w.heap.size w' [] ∧ Below w.heap.size w w' ∧ w.heap.size < w'.heap.size := by
  go_enter Try.func15, Try.ntmps15
  go_wp2
  go_ret
  exact ⟨rfl, .inl (new_few w), (Below.refl _ _).alloc (Nat.le_refl _) _, by simp⟩

/-- zzBytes_FnRepeatsSaysWhetherSeenBefore: it answers; where it answers true the script is small. -/
def Small (xss : List (List Int)) : Prop := xss.length ≤ 1048576 ∧ ∀ r, r < xss.length → (xss.getD r []).length ≤ 1048576

set_option maxHeartbeats 800000 in
theorem zzb13_nil (w : World) : Calls Try.prog 13 #[.slice none 0 0] w fun e w' => e = .returned (.bool true) ∧ w' = w := by
  go_enter Try.func13, Try.ntmps13
  go_wp2
  refine wp_loop_rounds 1 ?_
  rw [rounds_succ]
  go_wp2
  go_ret
  exact ⟨rfl, rfl⟩

set_option maxHeartbeats 800000 in
theorem zzb13_zero (x : Addr) (cap : Nat) (w : World) : Calls Try.prog 13 #[.slice (some x) 0 cap] w fun e w' => e = .returned (.bool true) ∧ w' = w := by
  go_enter Try.func13, Try.ntmps13
  go_wp2
  refine wp_loop_rounds 1 ?_
  rw [rounds_succ]
  go_wp2
  go_ret
  exact ⟨rfl, rfl⟩

set_option maxHeartbeats 800000 in
theorem zzb13_some (b off n cap : Nat) (A : Nat → Option Addr) (L C : Nat → Nat) (w : World) (hn : n ≤ 9223372036854775807)
    (hc : ∀ r, r < n → w.cell? ⟨b, off + r, none⟩ = some (.slice (A r) (L r) (C r))) :
    Calls Try.prog 13 #[.slice (some ⟨b, off, none⟩) n cap] w fun e w' => w' = w ∧ ((e = .returned (.bool false)) ∨ (e = .returned (.bool true) ∧ n ≤ 1048576 ∧ ∀ r, r < n → L r ≤ 1048576)) := by
  by_cases hbig : n ≤ 1048576
  · have hbig' : ¬ (1048576 : Int) < (n : Int) := by omega
    go_enter Try.func13, Try.ntmps13
    go_wp2
    go_loop [3, 4] (fun t i => ∃ k : Nat, ∃ q : Int, k ≤ n ∧ i = .int .i64 k ∧ t = .int .i64 q ∧ 0 ≤ q ∧ q ≤ 1048576 ∧ ∀ r, r < k → L r ≤ 1048576) (fun _ i => n - (intOf i).toNat)
    case atStart => exact ⟨0, n, Nat.zero_le _, rfl, rfl, by omega, by omega, fun r hr => by omega⟩
    case round =>
      obtain ⟨k, q, hk, rfl, rfl, hq0, hq1, hL⟩ := hrel
      by_cases hlt : k < n
      · have hck := hc k hlt
        have HL : Hid (∀ r, r < k → L r ≤ 1048576) := hL
        clear hL
        by_cases hl : L k ≤ 1048576
        · go_wp2
          · go_ret
            exact ⟨rfl, .inl rfl⟩
          · go_round
            case rel =>
              refine ⟨k + 1, _, by omega, by go_num, rfl, by omega, by omega, fun r hr => ?_⟩
              by_cases e : r = k
              · subst e; exact hl
              · exact HL.out r (by omega)
            case measure => simp [intOf]; omega
        · have hl' : (1048576 : Int) < (L k : Int) := by omega
          go_wp2
          go_ret
          exact ⟨rfl, .inl rfl⟩
      · have : k = n := by omega
        subst this
        have HL : Hid (∀ r, r < k → L r ≤ 1048576) := hL
        clear hL
        go_wp2
        go_ret
        refine ⟨rfl, .inr ?_⟩
        first | exact ⟨rfl, hbig, HL.out⟩ | exact ⟨rfl, HL.out⟩ | exact HL.out
  · have hbig' : (1048576 : Int) < (n : Int) := by omega
    go_enter Try.func13, Try.ntmps13
    go_wp2
    go_ret
    exact ⟨rfl, .inl rfl⟩

end Go.Proofs.Qxb6600256a
