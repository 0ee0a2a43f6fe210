/-
  Seat b6601219aD: strconv.FormatUint at base 10; the mark; formatDigits, formatFixed.
-/
import Derived.Test.Qxb6601219aDoorShelf
import Derived.Test.Qxb6601219aDoorPlain
import Derived.Lib.ItoaMem
import Derived.WalkKit
import Derived.WalkSpells
import Derived.WalkLawsBesides
import Derived.Deep.QuietTactic
import Derived.BigQuiet
import Derived.RegionTactic
import Derived.BigRegion
namespace Go.Proofs.Qxb6601219aDoor
open Go.RowKit Go.Sort Go.Lib

/-- The string of the bytes l. -/
def B (l : List UInt8) : ByteArray := ⟨l.toArray⟩
theorem B_size (l : List UInt8) : (B l).size = l.length := by simp [B, ByteArray.size]
theorem B_data (l : List UInt8) : (B l).data.toList = l := by simp [B]
theorem B_toList (l : List UInt8) : (B l).toList = l := by rw [ByteArray.toList_eq, B_data]
theorem B_ext {s : ByteArray} {l : List UInt8} (h : s.data.toList = l) : s = B l := by
  cases s with
  | mk d => simp only [B]; subst h; simp
theorem B_cat (a b : List UInt8) : B a ++ B b = B (a ++ b) := by
  apply B_ext
  rw [ByteArray.data_append]
  simp [B]
theorem B_extract (l : List UInt8) (i j : Nat) : (B l).extract i j = B ((l.drop i).take (j - i)) := by
  apply B_ext
  rw [extract_data, B_data]

theorem holds_zero0 (w : World) (T : TypeId) (nd : Nat) (hs : nd ≤ 24) : Holds (fun (b : UInt8) => Value.int .u8 (b.toNat : Int)) (w.alloc (.cells zeros24 T)) w.heap.size 0 (Array.replicate nd (0 : UInt8)) := fun j hj => by
  have hj' : j < nd := by simpa using hj
  refine ⟨?_, World.frozen?_alloc_new _ _ _ _⟩
  rw [World.cell?_alloc_new, zeros24_at _ (by omega), getElem!_pos _ j hj]
  simp

theorem fin0 (w : World) (o : Obj) (dk : Array UInt8) (k : Nat) : Below w.heap.size w ((putRow (fun (b : UInt8) => Value.int .u8 (b.toNat : Int)) (w.alloc o) w.heap.size 0 dk).drewN k) := by
  rw [alloc_eq_grow]
  obtain ⟨os', _, e⟩ := putRow_grow_new (fun (b : UInt8) => Value.int .u8 (b.toNat : Int)) w #[o] w.heap.size 0 dk (Nat.le_refl _)
  rw [e]
  refine ⟨rfl, rfl, rfl, ?_, ?_⟩
  · simp [grow, World.drewN]
  · intro i hi
    simp [grow, World.drewN, Array.getElem?_append, hi]

set_option maxHeartbeats 1600000 in
set_option maxRecDepth 100000 in
/-- internal/strconv.FormatUint at base 10. -/
theorem formatUint_in (u : Nat) (hu64 : u < 18446744073709551616) (w : World) (htab : Lib.TabIs Tryd.prog w Tryd.tabName .u64 Lib.pow10Tab) :
    Calls Tryd.prog 16 #[.int .u64 u, .int .i64 10] w fun e w' => e = .returned (.string (B (decDigits u))) ∧ Below w.heap.size w w' := by
  by_cases hs : u < 100
  · go_enter Tryd.func16, Tryd.ntmps16
    go_wp2_with (go_at_call 17; refine (Tryd.internal_strconv_small u hs _).mono ?_; rintro e w' ⟨rfl, rfl⟩)
    go_ret
    exact ⟨rfl, Below.refl _ _⟩
  · have hu1 : 1 ≤ u := by omega
    have hnd20 : nDigits u ≤ 20 := by have := numDigits_eq u hu1 hu64; split at this <;> omega
    have hsl : ∀ W, (Instr.sliceAt 38 (.pointer (some ⟨w.heap.size, 0, none⟩)) none (some (.int .i64 (nDigits u : Int))) none).run Tryd.prog W = .ok (.slice (some ⟨w.heap.size, 0, none⟩) (nDigits u) 24) W := fun W => by
      have hal : Tryd.prog.arrayLen 38 = 24 := by simp [Program.arrayLen, Tryd.underlying38]
      rw [run_sliceAt_array_h W 38 ⟨w.heap.size, 0, none⟩ (by simp [Program.arrayLen, Program.elem, Tryd.underlying38]) .i64 (nDigits u : Int) (by omega) (by rw [hal]; omega)]
      go_simp
    have hH0 := holds_zero0 w 38 (nDigits u) (by omega)
    have hfmt := Tryd.internal_strconv_formatBase10 w.heap.size 0 24 u (Array.replicate (nDigits u) 0) (w.alloc (.cells zeros24 38)) hH0 (by rw [Array.size_replicate]; exact lt_pow_nDigits u) hu64 (by rw [Array.size_replicate]; omega)
    rw [Array.size_replicate] at hfmt
    have HH0 := Lib.hid hH0
    clear hH0
    go_enter Tryd.func16, Tryd.ntmps16
    go_wp2_with (first
      | (go_at_call 18; refine (Tryd.internal_strconv_numDigits u hu1 hu64 _ (Lib.tabIs_alloc htab _)).mono ?_; rintro e w' ⟨rfl, rfl⟩))
    refine hfmt.mono ?_
    rintro e w' ⟨rfl, k, v', dk, rfl, hF⟩
    have hcv : (convert 34 9 (.slice (some ⟨w.heap.size, 0, none⟩) (nDigits u) 24)).run Tryd.prog ((putRow (fun (b : UInt8) => Value.int .u8 (b.toNat : Int)) (w.alloc (.cells zeros24 38)) w.heap.size 0 dk).drewN k) = .ok (.string ⟨(decDigits u).toArray⟩) ((putRow (fun (b : UInt8) => Value.int .u8 (b.toNat : Int)) (w.alloc (.cells zeros24 38)) w.heap.size 0 dk).drewN k) := by
      have h := run_convert_bytes_back (P := Tryd.prog) ((putRow (fun (b : UInt8) => Value.int .u8 (b.toNat : Int)) (w.alloc (.cells zeros24 38)) w.heap.size 0 dk).drewN k) 34 9 5 ⟨w.heap.size, 0, none⟩ 24 (decDigits u) Tryd.underlying34 Tryd.underlying5 Tryd.underlying9 (fun j hj => by
        rw [Lib.add_plain, row_is_numeral hF j hj, World.cell?_drewN]
        exact cell?_putRow (fun (b : UInt8) => Value.int .u8 (b.toNat : Int)) _ w.heap.size 0 _ dk HH0.out (by rw [hF.size, Array.size_replicate]) j (by rw [hF.size]; rw [decDigits_length] at hj; exact hj))
      rw [decDigits_length] at h
      exact h
    have hbel := fin0 w (.cells zeros24 38) dk k
    clear hfmt hF
    go_wp2
    go_ret
    exact ⟨rfl, hbel⟩

set_option maxHeartbeats 400000 in
/-- strconv.FormatUint at base 10. -/
theorem formatUint (u : Nat) (hu64 : u < 18446744073709551616) (w : World) (htab : Lib.TabIs Tryd.prog w Tryd.tabName .u64 Lib.pow10Tab) :
    Calls Tryd.prog 15 #[.int .u64 u, .int .i64 10] w fun e w' => e = .returned (.string (B (decDigits u))) ∧ Below w.heap.size w w' := by
  go_enter Tryd.func15, Tryd.ntmps15
  go_wp2_with fail
  refine (formatUint_in u hu64 w htab).mono ?_
  rintro e w' ⟨rfl, hb⟩
  go_wp2
  go_ret
  exact ⟨rfl, hb⟩

/-- The text of the mark: the code point's UTF-8. -/
def markText (m : Nat) : List UInt8 := if m < 128 then [UInt8.ofNat m] else [UInt8.ofNat (192 + m / 64), UInt8.ofNat (128 + m % 64)]

set_option maxRecDepth 100000 in
theorem conv1 (m : Nat) (h : m < 128) (w : World) : (convert 34 9 (.slice (some ⟨w.heap.size, 0, none⟩) 1 1)).run Tryd.prog (w.alloc (.cells #[.int .u8 (m : Int)] 5)) = .ok (.string (B (markText m))) (w.alloc (.cells #[.int .u8 (m : Int)] 5)) := by
  have h1 := run_convert_bytes_arg (P := Tryd.prog) (w.alloc (.cells #[.int .u8 (m : Int)] 5)) 34 5 Tryd.underlying34 Tryd.underlying5 w.heap.size 0 1 1 [(m : Int)] rfl (fun i hi => by
    obtain rfl : i = 0 := by omega
    simp) 9 Tryd.underlying9
  rw [h1, markText, if_pos h]
  rfl

set_option maxRecDepth 100000 in
theorem conv2 (m : Nat) (h : ¬ m < 128) (w : World) : (convert 34 9 (.slice (some ⟨w.heap.size, 0, none⟩) 2 2)).run Tryd.prog (w.alloc (.cells #[.int .u8 (192 + (m : Int) / 64), .int .u8 (128 + (m : Int) % 64)] 5)) = .ok (.string (B (markText m))) (w.alloc (.cells #[.int .u8 (192 + (m : Int) / 64), .int .u8 (128 + (m : Int) % 64)] 5)) := by
  have h1 := run_convert_bytes_arg (P := Tryd.prog) (w.alloc (.cells #[.int .u8 (192 + (m : Int) / 64), .int .u8 (128 + (m : Int) % 64)] 5)) 34 5 Tryd.underlying34 Tryd.underlying5 w.heap.size 0 2 2 [192 + (m : Int) / 64, 128 + (m : Int) % 64] rfl (fun i hi => by
    match i, hi with
    | 0, _ => simp
    | 1, _ => simp) 9 Tryd.underlying9
  rw [h1, markText, if_neg h]
  have e1 : (192 + (m : Int) / 64).toNat = 192 + m / 64 := by omega
  have e2 : (128 + (m : Int) % 64).toNat = 128 + m % 64 := by omega
  simp only [strOfNums, List.map_cons, List.map_nil, e1, e2, B]

theorem encode_mark (m : Nat) (h : m < 256) : Utf8.encode (m : Int) = B (markText m) := by
  have hv : Utf8.valid (m : Int) = true := by simp [Utf8.valid]; omega
  unfold Utf8.encode markText B
  simp only [hv, if_true, Int.toNat_natCast]
  by_cases h1 : m < 128
  · simp [h1]
  · have h2 : m < 2048 := by omega
    simp only [h1, h2, if_true, if_false]

theorem mark_length (m : Nat) : 1 ≤ (markText m).length ∧ (markText m).length ≤ 2 := by unfold markText; split <;> simp

set_option maxHeartbeats 800000 in
set_option maxRecDepth 100000 in
/-- zzMarkTextB1. -/
theorem mark_any (m : Nat) (hm : m < 256) (w : World) : Calls Tryd.prog 10 #[.int .u8 m] w fun e w' => e = .returned (.string (B (markText m))) ∧ Below w.heap.size w w' := by
  by_cases h : m < 128
  · have hc := conv1 m h w
    go_enter Tryd.func10, Tryd.ntmps10
    go_wp2
    go_ret
    exact ⟨rfl, (Below.refl _ _).alloc (Nat.le_refl _) _⟩
  · have hc := conv2 m h w
    go_enter Tryd.func10, Tryd.ntmps10
    go_wp2
    go_ret
    exact ⟨rfl, (Below.refl _ _).alloc (Nat.le_refl _) _⟩

/-- What formatFixed writes. -/
def signText (neg : Bool) : List UInt8 := if neg then [45] else []
def fixedText (neg : Bool) (u p m : Nat) : List UInt8 := signText neg ++ decDigits (u / 10 ^ p) ++ markText m ++ low u p

def strLen : Value → Nat | .string s => s.size | _ => 0

theorem add_B (a b : List UInt8) (h : a.length + b.length ≤ 9223372036854775807) (W : World) : (Op.stringOp .add (B a) (B b)).run Tryd.prog W = .ok (.string (B (a ++ b))) W := by
  rw [run_string_add_sum W (B a) (B b) (by rw [B_size, B_size]; exact h), B_cat]

theorem slice_to_B (l : List UInt8) (k : Int) (h0 : 0 ≤ k) (h1 : k ≤ l.length) (W : World) : (Instr.slice 9 (.string (B l)) none (some (.int .i64 k)) none).run Tryd.prog W = .ok (.string (B (l.take k.toNat))) W := by
  rw [run_slice_string_h W 9 (B l) Tryd.underlying9 .i64 k h0 (by rw [B_size]; exact h1), B_extract]
  simp

theorem slice_from_B (l : List UInt8) (k : Int) (h0 : 0 ≤ k) (h1 : k ≤ l.length) (W : World) : (Instr.slice 9 (.string (B l)) (some (.int .i64 k)) none none).run Tryd.prog W = .ok (.string (B (l.drop k.toNat))) W := by
  rw [run_slice_string_l W 9 (B l) Tryd.underlying9 .i64 k h0 (by rw [B_size]; exact h1), B_extract, B_size, List.take_of_length_le (by simp)]

set_option maxHeartbeats 1600000 in
set_option maxRecDepth 100000 in
/-- formatDigits on a numeral. -/
theorem digits_any (neg : Bool) (u p m : Nat) (hp : p ≤ 65536) (hm : m < 256) (hnd : nDigits u ≤ 20) (w : World) :
    Calls Tryd.prog 14 #[.bool neg, .string (B (decDigits u)), .int .i64 p, .int .u8 m] w fun e w' => e = .returned (.string (B (fixedText neg u p m))) ∧ Below w.heap.size w w' := by
  go_enter Tryd.func14, Tryd.ntmps14
  go_wp2
  go_loop [1] (fun s => ∃ j : Nat, s = .string (B (low u j)) ∧ nDigits u ≤ j ∧ j ≤ max (nDigits u) (p + 1)) (fun s => p + 1 - strLen s)
  case atStart => exact ⟨nDigits u, by rw [dec_low], Nat.le_refl _, by omega⟩
  case round =>
    obtain ⟨j, rfl, hj1, hj2⟩ := hrel
    have hsz : (B (low u j)).size = j := by rw [B_size, low_length]
    by_cases h : j ≤ p
    · have hadd : ∀ W, (Op.stringOp .add ⟨#[48]⟩ (B (low u j))).run Tryd.prog W = .ok (.string (B (low u (j + 1)))) W := fun W => by
        rw [low_pad (lt_pow hj1)]
        exact add_B [48] (low u j) (by rw [low_length]; simp; omega) W
      go_wp2
      go_round
      case rel => exact ⟨j + 1, rfl, by omega, by omega⟩
      case measure =>
        simp only [strLen]
        rw [B_size, B_size, low_length, low_length]
        omega
    · have hjL : Hid (j = max (nDigits u) (p + 1)) := by unfold Hid; omega
      have hcut : Hid (low u j = low u ((j - p) + p)) := by unfold Hid; congr 1; omega
      have hto : ∀ W, (Instr.slice 9 (.string (B (low u j))) none (some (.int .i64 ((j : Int) - p))) none).run Tryd.prog W = .ok (.string (B (low (u / 10 ^ p) (j - p)))) W := fun W => by
        rw [slice_to_B (low u j) ((j : Int) - p) (by omega) (by rw [low_length]; omega)]
        have e : ((j : Int) - p).toNat = j - p := by omega
        rw [e, hcut.out, low_take]
      have hfrom : ∀ W, (Instr.slice 9 (.string (B (low u j))) (some (.int .i64 ((j : Int) - p))) none none).run Tryd.prog W = .ok (.string (B (low u p))) W := fun W => by
        rw [slice_from_B (low u j) ((j : Int) - p) (by omega) (by rw [low_length]; omega)]
        have e : ((j : Int) - p).toNat = j - p := by omega
        rw [e, hcut.out, low_drop]
      have hcv : ∀ W, (convert 5 9 (.int .u8 (m : Int))).run Tryd.prog W = .ok (.string (B (markText m))) W := fun W => by
        rw [run_convert_int_string W 5 9 .u8 (m : Int) (by rw [Tryd.underlying5]; rfl) Tryd.underlying9, encode_mark m hm]
      have hml := mark_length m
      obtain ⟨x, hx⟩ : ∃ x, x = low (u / 10 ^ p) (j - p) := ⟨_, rfl⟩
      obtain ⟨y, hy⟩ : ∃ y, y = low u p := ⟨_, rfl⟩
      obtain ⟨z, hz⟩ : ∃ z, z = markText m := ⟨_, rfl⟩
      rw [← hx] at hto
      rw [← hy] at hfrom
      rw [← hz] at hcv hml
      have hxl : x.length = j - p := by rw [hx, low_length]
      have hyl : y.length = p := by rw [hy, low_length]
      have HXYZ : Hid (x = decDigits (u / 10 ^ p) ∧ y = low u p ∧ z = markText m) := by
        refine ⟨?_, hy, hz⟩
        rw [hx, dec_low, nDigits_div (u := u) (p := p) hjL.out]
      have a2 : ∀ W, (Op.stringOp .add (B x) (B z)).run Tryd.prog W = .ok (.string (B (x ++ z))) W := fun W => add_B x z (by omega) W
      have a3 : ∀ W, (Op.stringOp .add (B (x ++ z)) (B y)).run Tryd.prog W = .ok (.string (B (x ++ (z ++ y)))) W := fun W => by rw [← List.append_assoc]; exact add_B (x ++ z) y (by simp; omega) W
      have a1 : ∀ W, (Op.stringOp .add ⟨#[]⟩ (B x)).run Tryd.prog W = .ok (.string (B x)) W := fun W => by
        have := add_B [] x (by simp; omega) W
        simpa [B] using this
      have b1 : ∀ W, (Op.stringOp .add ⟨#[45]⟩ (B x)).run Tryd.prog W = .ok (.string (B (45 :: x))) W := fun W => add_B [45] x (by simp; omega) W
      have b2 : ∀ W, (Op.stringOp .add (B (45 :: x)) (B z)).run Tryd.prog W = .ok (.string (B (45 :: (x ++ z)))) W := fun W => add_B (45 :: x) z (by simp; omega) W
      have b3 : ∀ W, (Op.stringOp .add (B (45 :: (x ++ z))) (B y)).run Tryd.prog W = .ok (.string (B (45 :: (x ++ (z ++ y))))) W := fun W => by rw [← List.append_assoc]; exact add_B (45 :: (x ++ z)) y (by simp; omega) W
      clear hx hy hz hxl hyl hml hcut
      cases neg
      · go_wp2
        go_quiet (fail)
        go_wp2
        go_ret
        refine ⟨?_, ⟨rfl, rfl, rfl, Nat.le_refl _, fun _ _ => rfl⟩⟩
        rw [show fixedText false u p m = x ++ (z ++ y) by
          obtain ⟨h1, h2, h3⟩ := HXYZ.out
          rw [h1, h2, h3]; simp [fixedText, signText]]
        rfl
      · go_wp2
        go_quiet (fail)
        go_wp2
        go_ret
        refine ⟨?_, ⟨rfl, rfl, rfl, Nat.le_refl _, fun _ _ => rfl⟩⟩
        rw [show fixedText true u p m = 45 :: (x ++ (z ++ y)) by
          obtain ⟨h1, h2, h3⟩ := HXYZ.out
          rw [h1, h2, h3]; simp [fixedText, signText]]
        rfl
end Go.Proofs.Qxb6601219aDoor
