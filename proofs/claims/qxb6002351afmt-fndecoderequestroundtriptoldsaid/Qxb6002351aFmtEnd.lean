/-
  Seat b6002351aF: the decoder's end, fmt.Errorf.
-/
import Derived.Test.Qxb6002351aFmtEnt
import Derived.Stop.CallBack
import Derived.Stop.IfaceNil
import Derived.Stop.JoinedAt
import Derived.Stop.Texts
import Derived.Stop.JoinedTold
namespace Go.Proofs.Qxb6002351aFmt
open Go.RowKit Go.Extern.Stop Go.Stop Go.Extern

theorem Tryf.call28 (args : Array Value) (w : World) : (callFunc 28 args).run Tryf.prog w = ((FmtStop.errorf #[9, 65] #[31] args).run Tryf.prog w).andThen fun v w' => .ok (.value v) w' :=
  run_callFunc_extern Tryf.func28 (by kernel_rfl) (by kernel_rfl) (by kernel_rfl) (by kernel_rfl) args w
theorem Tryf.guard (name : String) (w : World) : (FmtStop.guard name).run Tryf.prog w = .ok () w := by kernel_rfl
theorem Tryf.fmt1 : FmtStop.printed? ⟨#[37, 100, 32, 98, 121, 116, 101, 115, 32, 97, 102, 116, 101, 114, 32, 116, 104, 101, 32, 109, 101, 115, 115, 97, 103, 101]⟩ 1 = some [(0, 100, false)] := by kernel_rfl
theorem Tryf.fmt1r (w : World) : (FmtDoors.printed ⟨#[37, 100, 32, 98, 121, 116, 101, 115, 32, 97, 102, 116, 101, 114, 32, 116, 104, 101, 32, 109, 101, 115, 115, 97, 103, 101]⟩ 1).run Tryf.prog w = .ok [(0, 100, false)] w := by kernel_rfl
def Tryf.shape3 : List UInt8 := [5, 3, 0, 0, 0, 0, 0, 0, 0, 105, 110, 116]
theorem Tryf.op3_100 (name : String) (x : Int) (w : World) : (FmtStop.operand name false 100 false (.iface 3 (.int .i64 x))).run Tryf.prog w = .ok (Tryf.shape3, Go.Extern.Stop.digits 8 (x % 2 ^ 64).toNat) w := by kernel_rfl
theorem Tryf.op3_100w (name : String) (x : Int) (w : World) : (FmtStop.operand name true 100 false (.iface 3 (.int .i64 x))).run Tryf.prog w = .ok (Tryf.shape3, Go.Extern.Stop.digits 8 (x % 2 ^ 64).toNat) w := by kernel_rfl
theorem Tryf.strict3 (name : String) (x : Int) (w : World) : (FmtStop.strict name (.iface 3 (.int .i64 x))).run Tryf.prog w = .ok (Tryf.shape3, Go.Extern.Stop.digits 8 (x % 2 ^ 64).toNat) w := by kernel_rfl

theorem Tryf.ptrErr (w : World) : (FmtStop.ptrTo "errors.errorString").run Tryf.prog w = .ok 67 w := by kernel_rfl
theorem Tryf.elem67 (w : World) : (elemOf 67).run Tryf.prog w = .ok 69 w := by kernel_rfl

attribute [local go_sem] Tryf.ptrErr Tryf.elem67 Tryf.call28 Tryf.guard Tryf.fmt1 Tryf.fmt1r Tryf.op3_100 Tryf.op3_100w Tryf.strict3

theorem grown_drew (w : World) (row : Option Nat) : w.grownBy w.drew row := ⟨rfl, rfl, rfl, Nat.le_refl _, fun _ _ _ => rfl⟩

set_option maxHeartbeats 800000 in
theorem errorf_any (F : Interp) (n : Int) (blk : Nat) (w : World) (hF : F.answers w.tape) (hc0 : w.cell? ⟨blk, 0, none⟩ = some (.iface 3 (.int .i64 n))) :
    Calls Tryf.prog 25 #[.string ⟨#[37, 100, 32, 98, 121, 116, 101, 115, 32, 97, 102, 116, 101, 114, 32, 116, 104, 101, 32, 109, 101, 115, 115, 97, 103, 101]⟩, .slice (some ⟨blk, 0, none⟩) 1 1] w fun e w' => ∃ ty u, e = .returned (.iface ty u) ∧ w.grownBy w' none := by
  have hF' := answers_open hF
  go_enter Tryf.func25, Tryf.ntmps25
  go_wp2
  go_ret
  exact ⟨_, _, rfl, (World.grownBy_alloc _ _ _).trans (grown_drew _ _)⟩

set_option maxHeartbeats 800000 in
theorem end_bad (D : Nat) (v : Value) (ty : TypeId) (u : Value) (w : World) (h : w.rowIs D 51 2 (dcell v (.iface ty u))) :
    Calls Tryf.prog 21 #[.pointer (some ⟨D, 0, none⟩)] w fun e w' => e = .returned (.iface ty u) ∧ w' = w := by
  have c0 := h.cell (i := 0) (by omega)
  have c1 := h.cell (i := 1) (by omega)
  simp only [dcell, if_true, Nat.one_ne_zero, if_false] at c0 c1
  go_enter Tryf.func21, Tryf.ntmps21
  go_wp2
  go_ret
  exact ⟨rfl, rfl⟩

set_option maxHeartbeats 800000 in
theorem end_ok (D : Nat) (a : Option Addr) (c : Nat) (w : World) (h : w.rowIs D 51 2 (dcell (.slice a 0 c) .nilIface)) :
    Calls Tryf.prog 21 #[.pointer (some ⟨D, 0, none⟩)] w fun e w' => e = .returned .nilIface ∧ w' = w := by
  have c0 := h.cell (i := 0) (by omega)
  have c1 := h.cell (i := 1) (by omega)
  simp only [dcell, if_true, Nat.one_ne_zero, if_false] at c0 c1
  go_enter Tryf.func21, Tryf.ntmps21
  go_wp2
  go_ret
  exact ⟨rfl, rfl⟩

set_option maxHeartbeats 800000 in
theorem end_more (F : Interp) (D : Nat) (a : Option Addr) (n c : Nat) (w : World) (hF : F.answers w.tape) (hn : 0 < n) (h : w.rowIs D 51 2 (dcell (.slice a n c) .nilIface)) :
    Calls Tryf.prog 21 #[.pointer (some ⟨D, 0, none⟩)] w fun e w' => ∃ ty u, e = .returned (.iface ty u) ∧ w.grownBy w' (some D) := by
  have c0 := h.cell (i := 0) (by omega)
  have c1 := h.cell (i := 1) (by omega)
  simp only [dcell, if_true, Nat.one_ne_zero, if_false] at c0 c1
  have hD := h.lt
  have hn0 : (0 : Int) < (n : Int) := by omega
  go_enter Tryf.func21, Tryf.ntmps21
  go_wp2_with fail
  refine (errorf_any F n w.heap.size _ (by exact hF) (by go_simp)).mono ?_
  rintro e w1 ⟨ty, u, rfl, hg⟩
  have hg' := (World.grownBy_alloc w _ none).trans hg
  have h1 : w1.rowIs D 51 2 (dcell (.slice a n c) .nilIface) := h.of_block (hg'.block D hD (by simp))
  have d1 := h1.cell (i := 1) (by omega)
  simp only [dcell, Nat.one_ne_zero, if_false] at d1
  have z1 := h1.frozen 1
  clear c0 c1 hg
  go_wp2
  go_ret
  exact ⟨ty, u, rfl, (hg'.but _).trans (grown_set _ _ _)⟩

/-- (*decoder).end. -/
theorem end_any (F : Interp) (D Bd : Nat) (s : S) (w : World) (hF : F.answers w.tape) (h : Dp w D Bd s) :
    Calls Tryf.prog 21 #[.pointer (some ⟨D, 0, none⟩)] w fun e w' => ∃ er, e = .returned er ∧ ((s = ([], true) ∧ er = .nilIface) ∨ (s ≠ ([], true) ∧ ∃ ty u, er = .iface ty u)) ∧ w.grownBy w' (some D) := by
  obtain ⟨l, ok⟩ := s
  obtain ⟨a, c, er, h1, _, _, _, ⟨h4, rfl⟩ | ⟨h4, ty, u, rfl⟩⟩ := h
  · have h4' : ok = true := h4
    subst h4'
    by_cases hl : l = []
    · subst hl
      refine (end_ok D a c w h1).mono ?_
      rintro e w' ⟨rfl, rfl⟩
      exact ⟨_, rfl, .inl ⟨rfl, rfl⟩, World.grownBy.refl _ _⟩
    · have hp : 0 < l.length := List.length_pos_iff.2 hl
      refine (end_more F D a l.length c w hF hp h1).mono ?_
      rintro e w' ⟨ty, u, rfl, hg⟩
      exact ⟨_, rfl, .inr ⟨by intro e; cases e; exact hl rfl, ty, u, rfl⟩, hg⟩
  · have h4' : ok = false := h4
    subst h4'
    refine (end_bad D _ ty u w h1).mono ?_
    rintro e w' ⟨rfl, rfl⟩
    exact ⟨_, rfl, .inr ⟨(by intro e; cases e), ty, u, rfl⟩, World.grownBy.refl _ _⟩

end Go.Proofs.Qxb6002351aFmt
