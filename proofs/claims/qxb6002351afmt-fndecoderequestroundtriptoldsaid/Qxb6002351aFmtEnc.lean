/-
  Seat b6002351aF: the encoder: putU32, putU64, putStr, putBytes.
-/
import Derived.Test.Qxb6002351aFmtShelf
import Derived.WalkKit
import Derived.WalkSpells
import Derived.WalkLawsBesides
import Derived.Deep.QuietTactic
import Derived.BigQuiet
import Derived.Deep.OwnRows
import Derived.Lib.EndianMore
import Derived.Deep.AppendLies
namespace Go.Proofs.Qxb6002351aFmt
open Go.RowKit

theorem Tryf.info5 : (Tryf.prog.info? 5).map (fun i => (i.zero, i.size, i.bytes)) = some (some (.int .u8 0), 1, 1) := by kernel_rfl

/-- The string of the bytes l. -/
def B (l : List UInt8) : ByteArray := ⟨l.toArray⟩
theorem B_size (l : List UInt8) : (B l).size = l.length := by simp [B, ByteArray.size]
theorem B_data (l : List UInt8) : (B l).data.toList = l := by simp [B]
theorem B_toList (l : List UInt8) : (B l).toList = l := by rw [ByteArray.toList_eq, B_data]
theorem B_ext {s : ByteArray} {l : List UInt8} (h : s.data.toList = l) : s = B l := by
  cases s with
  | mk d => simp only [B]; subst h; simp

/-- Bytes as cells. -/
def bc (l : List UInt8) : List Value := l.map fun b => Value.int .u8 (b.toNat : Int)
theorem bc_length (l : List UInt8) : (bc l).length = l.length := by simp [bc]
theorem bc_append (a b : List UInt8) : bc (a ++ b) = bc a ++ bc b := by simp [bc]
theorem bc_one (l : List UInt8) : ∀ u ∈ bc l, u.oneCell' = true := by
  intro u hu
  obtain ⟨b, _, rfl⟩ := List.mem_map.1 hu
  rfl

/-- The row that the encoder fills: the bytes l so far, room for cap. -/
def Enc (w : World) (g cap : Nat) (l : List UInt8) : Prop := w.ownsRow g 5 1 (.slice (some ⟨g, 0, none⟩) l.length cap) l.length (bc l)

theorem byte_cell (x : Nat) (y : Int) (h : y = ((x % 256 : Nat) : Int)) : (Value.int .u8 (((x % 256).toUInt8).toNat : Int)) = .int .u8 y := by
  rw [Lib.toUInt8_mod, h]

/-- Four bytes, as the walk lays them. -/
theorem be4_cells (v : Nat) (hv : v < 4294967296) : bc (Lib.beBytes 4 v) = [.int .u8 ((v : Int) / 16777216), .int .u8 ((v : Int) / 65536 % 256), .int .u8 ((v : Int) / 256 % 256), .int .u8 ((v : Int) % 256)] := by
  simp only [bc, Lib.beBytes, Lib.leBytes, List.reverse_cons, List.reverse_nil, List.nil_append, List.cons_append, List.map_cons, List.map_nil]
  rw [byte_cell v _ rfl, byte_cell (v / 256) _ rfl, byte_cell (v / 256 / 256) _ rfl, byte_cell (v / 256 / 256 / 256) _ rfl]
  have e1 : ((v % 256 : Nat) : Int) = (v : Int) % 256 := by omega
  have e2 : ((v / 256 % 256 : Nat) : Int) = (v : Int) / 256 % 256 := by omega
  have e3 : ((v / 256 / 256 % 256 : Nat) : Int) = (v : Int) / 65536 % 256 := by omega
  have e4 : ((v / 256 / 256 / 256 % 256 : Nat) : Int) = (v : Int) / 16777216 := by omega
  rw [e1, e2, e3, e4]

/-- The cells of a new block. -/
theorem news_new (w : World) (cs : List Value) (t : TypeId) : ∀ j u, cs[j]? = some u → (w.alloc (.cells cs.toArray t)).cell? ((⟨w.heap.size, 0, none⟩ : Addr).add j) = some u := by
  intro j u hj
  have hadd : (⟨w.heap.size, 0, none⟩ : Addr).add j = ⟨w.heap.size, j, none⟩ := by unfold Addr.add; split <;> simp_all
  rw [hadd, World.cell?_alloc_new]
  simpa using hj

set_option maxHeartbeats 800000 in
/-- putU32GridG1. -/
theorem put32_any (g cap : Nat) (l : List UInt8) (v : Nat) (w : World) (hv : v < 4294967296) (h : Enc w g cap l) (hroom : l.length + 4 ≤ cap) :
    Calls Tryf.prog 15 #[.slice (some ⟨g, 0, none⟩) l.length cap, .int .u32 v] w fun e w' => e = .returned (.slice (some ⟨g, 0, none⟩) (l.length + 4) cap) ∧ Enc w' g cap (l ++ Lib.beBytes 4 v) ∧ w.grownBy w' (some g) := by
  obtain ⟨i0, hi, hz0, hz1, hz2⟩ := info_parts Tryf.info5
  go_enter Tryf.func15, Tryf.ntmps15
  go_wp2_with (at_builtin; refine wpList_append_fits _ rfl _ _ 22 rfl g 5 i0 1 Tryf.underlying22 hi hz1 g l.length cap (bc l) rfl (World.ownsRow.alloc h _) ⟨w.heap.size, 0, none⟩ 4 4 (bc (Lib.beBytes 4 v)) rfl (by rw [bc_length, Lib.beBytes_length]) ?c1 (bc_one _) hroom ?_)
  case c1 =>
    rw [be4_cells v hv]
    exact news_new w _ 5
  · intro w1 hown hgrow
    have HG : Hid (w.grownBy w1 (some g)) := (World.grownBy_alloc w _ _).trans hgrow
    have HE : Hid (Enc w1 g cap (l ++ Lib.beBytes 4 v)) := by
      unfold Hid Enc
      rw [bc_append, List.length_append, Lib.beBytes_length]
      exact hown
    clear hown hgrow
    go_wp2
    go_ret
    exact ⟨rfl, HE.out, HG.out⟩


/-- Eight bytes are twice four. -/
theorem be8_split (v : Nat) : Lib.beBytes 8 v = Lib.beBytes 4 (v / 4294967296) ++ Lib.beBytes 4 (v % 4294967296) := by
  have e0 : v % 4294967296 % 256 = v % 256 := by omega
  have e1 : v % 4294967296 / 256 % 256 = v / 256 % 256 := by omega
  have e2 : v % 4294967296 / 256 / 256 % 256 = v / 256 / 256 % 256 := by omega
  have e3 : v % 4294967296 / 256 / 256 / 256 % 256 = v / 256 / 256 / 256 % 256 := by omega
  have e4 : v / 4294967296 = v / 256 / 256 / 256 / 256 := by omega
  simp only [Lib.beBytes, Lib.leBytes, List.reverse_cons, List.reverse_nil, List.nil_append, List.cons_append, e0, e1, e2, e3, e4]


theorem put32_at (g cap n : Nat) (l : List UInt8) (v : Nat) (x : Int) (w : World) (hx : x = (v : Int)) (hn : l.length = n) (hv : v < 4294967296) (h : Enc w g cap l) (hroom : n + 4 ≤ cap) :
    Calls Tryf.prog 15 #[.slice (some ⟨g, 0, none⟩) n cap, .int .u32 x] w fun e w' => e = .returned (.slice (some ⟨g, 0, none⟩) (n + 4) cap) ∧ Enc w' g cap (l ++ Lib.beBytes 4 v) ∧ w.grownBy w' (some g) := by
  subst hn hx
  exact put32_any g cap l v w hv h hroom

set_option maxHeartbeats 800000 in
/-- putU64GridG1. -/
theorem put64_any (g cap n : Nat) (l : List UInt8) (v : Nat) (w : World) (hn : l.length = n) (hv : v < 18446744073709551616) (h : Enc w g cap l) (hroom : n + 8 ≤ cap) :
    Calls Tryf.prog 16 #[.slice (some ⟨g, 0, none⟩) n cap, .int .u64 v] w fun e w' => e = .returned (.slice (some ⟨g, 0, none⟩) (n + 8) cap) ∧ Enc w' g cap (l ++ Lib.beBytes 8 v) ∧ w.grownBy w' (some g) := by
  go_enter Tryf.func16, Tryf.ntmps16
  go_wp2_with fail
  refine (put32_at g cap n l (v / 4294967296) _ w (by omega) hn (by omega) h (by omega)).mono ?_
  rintro e w1 ⟨rfl, h1, g1⟩
  go_wp2_with fail
  refine (put32_at g cap (n + 4) _ (v % 4294967296) _ w1 (by omega) (by rw [List.length_append, Lib.beBytes_length, hn]) (by omega) h1 (by omega)).mono ?_
  rintro e w2 ⟨rfl, h2, g2⟩
  go_wp2
  go_ret
  refine ⟨rfl, ?_, g1.trans g2⟩
  rw [be8_split, ← List.append_assoc]
  exact h2

theorem index_B (l : List UInt8) (k : Nat) (h : k < l.length) (W : World) : (Instr.index 9 (.string (B l)) (.int .i64 (k : Int))).run Tryf.prog W = .ok (.int .u8 ((l.getD k 0).toNat : Int)) W := by
  have hs : (B l)[k]? = some (l.getD k 0) := by
    have hk : k < (B l).size := by rw [B_size]; exact h
    rw [getElem?_pos (B l) k hk]
    show some (B l).data[k] = _
    simp [B, h]
  simp [Instr.index, Sem.run_bind, asIntOf, run_underlying Tryf.underlying9 W, hs]

theorem take_snoc (l : List UInt8) (k : Nat) (h : k < l.length) : l.take (k + 1) = l.take k ++ [l.getD k 0] := by
  rw [List.take_succ_eq_append_getElem h]
  simp [List.getD, h]

theorem bc_single (x : UInt8) : bc [x] = [.int .u8 (x.toNat : Int)] := rfl

set_option maxHeartbeats 800000 in
/-- putStrGridG1. -/
theorem putStr_any (g cap n : Nat) (l xs : List UInt8) (w : World) (hn : l.length = n) (hx : xs.length ≤ 2000000) (h : Enc w g cap l) (hroom : n + (4 + xs.length) ≤ cap) :
    Calls Tryf.prog 13 #[.slice (some ⟨g, 0, none⟩) n cap, .string (B xs)] w fun e w' => e = .returned (.slice (some ⟨g, 0, none⟩) (n + (4 + xs.length)) cap) ∧ Enc w' g cap (l ++ (Lib.beBytes 4 xs.length ++ xs)) ∧ w.grownBy w' (some g) := by
  obtain ⟨i0, hi, hz0, hz1, hz2⟩ := info_parts Tryf.info5
  have hsz := B_size xs
  go_enter Tryf.func13, Tryf.ntmps13
  go_wp2_with fail
  refine (put32_at g cap n l xs.length _ w (by omega) hn (by omega) h (by omega)).mono ?_
  rintro e w1 ⟨rfl, h1, g1⟩
  go_wp2
  go_loopw [0, 5] (fun b i wr => ∃ k : Nat, k ≤ xs.length ∧ i = .int .i64 k ∧ b = .slice (some ⟨g, 0, none⟩) (n + 4 + k) cap ∧ Enc wr g cap (l ++ Lib.beBytes 4 xs.length ++ xs.take k) ∧ w.grownBy wr (some g))
    (fun _ i _ => xs.length - (intOf i).toNat)
  case atStart => exact ⟨0, Nat.zero_le _, rfl, rfl, by simpa using h1, g1⟩
  case round =>
    obtain ⟨k, hk, rfl, rfl, hE, hG⟩ := hrel
    by_cases hlt : k < xs.length
    · have hix := index_B xs k hlt
      have HG : Hid (w.grownBy wr (some g)) := hG
      obtain ⟨Y, hY⟩ : ∃ Y, Y = l ++ Lib.beBytes 4 xs.length ++ xs.take k := ⟨_, rfl⟩
      have hYl : Y.length = n + 4 + k := by rw [hY, List.length_append, List.length_append, Lib.beBytes_length, List.length_take, hn, Nat.min_eq_left (by omega)]
      obtain ⟨x, hxk⟩ : ∃ x, x = xs.getD k 0 := ⟨_, rfl⟩
      rw [← hY] at hE
      rw [← hxk] at hix
      have HY : Hid (Y ++ [x] = l ++ Lib.beBytes 4 xs.length ++ xs.take (k + 1)) := by
        unfold Hid
        rw [hY, hxk, take_snoc xs k hlt]; simp only [List.append_assoc]
      have HE : Hid (wr.ownsRow g 5 1 (.slice (some ⟨g, 0, none⟩) (n + 4 + k) cap) (n + 4 + k) (bc Y)) := by
        unfold Enc at hE
        rw [hYl] at hE
        exact hE
      clear hG hE h1 g1 hY hxk
      go_wp2_with (at_builtin; refine wpList_append_fits _ rfl _ _ 22 rfl g 5 i0 1 Tryf.underlying22 hi hz1 g (n + 4 + k) cap (bc Y) rfl (World.ownsRow.alloc HE.out _) ⟨wr.heap.size, 0, none⟩ 1 1 (bc [x]) rfl rfl ?c1 (bc_one _) ?c2 ?_)
      case c1 => exact news_new wr _ 5
      case c2 => omega
      intro w2 hown hgrow
      have HG2 : Hid (w.grownBy w2 (some g)) := HG.out.trans ((World.grownBy_alloc wr _ _).trans hgrow)
      have HE2 : Hid (Enc w2 g cap (l ++ Lib.beBytes 4 xs.length ++ xs.take (k + 1))) := by
        rw [← HY.out]
        unfold Hid Enc
        rw [List.length_append, hYl, bc_append]
        exact hown
      clear hown hgrow
      go_wp2
      go_roundw
      case rel => exact ⟨k + 1, by omega, by go_num, by rfl, HE2.out, HG2.out⟩
      case measure => simp [intOf]; omega
    · have : k = xs.length := by omega
      subst this
      go_wp2
      go_ret
      refine ⟨by rw [Nat.add_assoc]; rfl, ?_, hG⟩
      rw [List.take_length, List.append_assoc] at hE
      exact hE

/-- A byte slice that reads as xs, its row below block B. -/
def Rd (Bd : Nat) (w : World) (v : Value) (xs : List UInt8) : Prop :=
  ∃ a c, v = .slice a xs.length c ∧ (xs = [] ∨ ∃ b off, a = some ⟨b, off, none⟩ ∧ b < Bd ∧ ∀ i, i < xs.length → w.cell? ⟨b, off + i, none⟩ = some (.int .u8 ((xs.getD i 0).toNat : Int)))

theorem Rd.grown {Bd : Nat} {w w' : World} {v : Value} {xs : List UInt8} {row : Option Nat} (h : Rd Bd w v xs) (hg : w.grownBy w' row) (hb : Bd ≤ w.heap.size) (hr : ∀ j, row = some j → Bd ≤ j) : Rd Bd w' v xs := by
  obtain ⟨a, c, hv, hc⟩ := h
  refine ⟨a, c, hv, ?_⟩
  rcases hc with hc | ⟨b, off, ha, hlt, hc⟩
  · exact .inl hc
  · refine .inr ⟨b, off, ha, hlt, fun i hi => ?_⟩
    rw [hg.cell_far ⟨b, off + i, none⟩ (by show b < _; omega) (by intro e; have := hr b e.symm; omega)]
    exact hc i hi

theorem Rd.mono {Bd B' : Nat} {w : World} {v : Value} {xs : List UInt8} (h : Rd Bd w v xs) (hb : Bd ≤ B') : Rd B' w v xs := by
  obtain ⟨a, c, hv, hc⟩ := h
  refine ⟨a, c, hv, ?_⟩
  rcases hc with hc | ⟨b, off, ha, hlt, hc⟩
  · exact .inl hc
  · exact .inr ⟨b, off, ha, by omega, hc⟩

set_option maxHeartbeats 800000 in
/-- putBytesGridG1. -/
theorem putBytes_any (g cap n : Nat) (l xs : List UInt8) (v : Value) (w : World) (hn : l.length = n) (hx : xs.length ≤ 2000000) (hgl : g < w.heap.size) (hv : Rd g w v xs) (h : Enc w g cap l) (hroom : n + (4 + xs.length) ≤ cap) :
    Calls Tryf.prog 14 #[.slice (some ⟨g, 0, none⟩) n cap, v] w fun e w' => e = .returned (.slice (some ⟨g, 0, none⟩) (n + (4 + xs.length)) cap) ∧ Enc w' g cap (l ++ (Lib.beBytes 4 xs.length ++ xs)) ∧ w.grownBy w' (some g) := by
  obtain ⟨i0, hi, hz0, hz1, hz2⟩ := info_parts Tryf.info5
  have HR : Hid (Rd g w v xs) := hv
  obtain ⟨av, cv, rfl, -⟩ := hv
  go_enter Tryf.func14, Tryf.ntmps14
  go_wp2_with fail
  refine (put32_at g cap n l xs.length _ w (by omega) hn (by omega) h (by omega)).mono ?_
  rintro e w1 ⟨rfl, h1, g1⟩
  go_wp2
  go_loopw [0, 5] (fun b i wr => ∃ k : Nat, k ≤ xs.length ∧ i = .int .i64 k ∧ b = .slice (some ⟨g, 0, none⟩) (n + 4 + k) cap ∧ Enc wr g cap (l ++ Lib.beBytes 4 xs.length ++ xs.take k) ∧ w.grownBy wr (some g))
    (fun _ i _ => xs.length - (intOf i).toNat)
  case atStart => exact ⟨0, Nat.zero_le _, rfl, rfl, by simpa using h1, g1⟩
  case round =>
    obtain ⟨k, hk, rfl, rfl, hE, hG⟩ := hrel
    by_cases hlt : k < xs.length
    · have hR := HR.out.grown hG (by omega) (fun j hj => by cases hj; exact Nat.le_refl _)
      obtain ⟨a', c', hv', hc'⟩ := hR
      rcases hc' with hc' | ⟨b, off, rfl, hbl, hc'⟩
      · subst hc'; simp at hlt
      obtain ⟨rfl, -, rfl⟩ := Value.slice.inj hv'
      have hck := hc' k hlt
      have HG : Hid (w.grownBy wr (some g)) := hG
      obtain ⟨Y, hY⟩ : ∃ Y, Y = l ++ Lib.beBytes 4 xs.length ++ xs.take k := ⟨_, rfl⟩
      have hYl : Y.length = n + 4 + k := by rw [hY, List.length_append, List.length_append, Lib.beBytes_length, List.length_take, hn, Nat.min_eq_left (by omega)]
      obtain ⟨x, hxk⟩ : ∃ x, x = xs.getD k 0 := ⟨_, rfl⟩
      rw [← hY] at hE
      rw [← hxk] at hck
      have HY : Hid (Y ++ [x] = l ++ Lib.beBytes 4 xs.length ++ xs.take (k + 1)) := by
        unfold Hid
        rw [hY, hxk, take_snoc xs k hlt]; simp only [List.append_assoc]
      have HE : Hid (wr.ownsRow g 5 1 (.slice (some ⟨g, 0, none⟩) (n + 4 + k) cap) (n + 4 + k) (bc Y)) := by
        unfold Enc at hE
        rw [hYl] at hE
        exact hE
      clear hG hE h1 g1 hY hxk hv' hc'
      go_wp2_with (at_builtin; refine wpList_append_fits _ rfl _ _ 22 rfl g 5 i0 1 Tryf.underlying22 hi hz1 g (n + 4 + k) cap (bc Y) rfl (World.ownsRow.alloc HE.out _) ⟨wr.heap.size, 0, none⟩ 1 1 (bc [x]) rfl rfl ?c1 (bc_one _) ?c2 ?_)
      case c1 => exact news_new wr _ 5
      case c2 => omega
      intro w2 hown hgrow
      have HG2 : Hid (w.grownBy w2 (some g)) := HG.out.trans ((World.grownBy_alloc wr _ _).trans hgrow)
      have HE2 : Hid (Enc w2 g cap (l ++ Lib.beBytes 4 xs.length ++ xs.take (k + 1))) := by
        rw [← HY.out]
        unfold Hid Enc
        rw [List.length_append, hYl, bc_append]
        exact hown
      clear hown hgrow
      go_wp2
      go_roundw
      case rel => exact ⟨k + 1, by omega, by go_num, by rfl, HE2.out, HG2.out⟩
      case measure => simp [intOf]; omega
    · have : k = xs.length := by omega
      subst this
      go_wp2
      go_ret
      refine ⟨by rw [Nat.add_assoc]; rfl, ?_, hG⟩
      rw [List.take_length, List.append_assoc] at hE
      exact hE

end Go.Proofs.Qxb6002351aFmt
