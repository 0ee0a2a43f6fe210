/-
  Seat b6002351aF: an argument of bytes, opened; what the rows share.
-/
import Derived.Test.Qxb6002351aFmtEnc
import Derived.Test.Qxb6002351aFmtCards
import Derived.ProofKit
import Derived.OpenShut
import Derived.ShutString
import Derived.ChangeSlices
import Derived.ChangeSame
import Derived.JoinedOf
import Derived.Carry
import Derived.Stop.JoinedAt
import Derived.Stop.Texts
import Derived.Stop.JoinedTold
import Derived.SizedLaws
import Derived.SevenToldRow
namespace Go.Proofs.Qxb6002351aFmt
open Go.ChangeShapes Go.WideShapes Go.ChangeAt Go.RowKit Go.Kit
open Go.Extern.Stop Go.Stop Go.Extern

theorem own : ownKnob Tryf.prog.godebug = none := by kernel_rfl
theorem laidOut : laidOutB Tryf.prog = true := by kernel_rfl
theorem cells5 : Tryf.prog.cellsOf 5 = 1 := by kernel_rfl
theorem stops : Tryf.pinned.checked.prog.stops = ["fmt.errorf"] := by kernel_rfl
theorem stopKnobs : Tryf.pinned.checked.prog.stopKnobs = [] := by kernel_rfl
theorem quiet (os : Os) : Stop.quiet Tryf.pinned.checked.prog os := by
  intro k hk
  rw [stopKnobs] at hk
  cases hk

/-- A byte slice that came in reads as some bytes. -/
theorem open_bytes {H : Type} {enc : TypeId × Value → H} {W : World} {base : Nat} {v1 : Value} {d1 : DataW H} {p1 : List MemPlace} (hval : Value.okWide Tryf.prog W .any base 22 v1) (h1 : DataW.Trod enc Tryf.prog W 0 (fun _ => true) true 22 v1 d1 p1) :
    ∃ (a : Option Addr) (c : Nat) (xs : List UInt8), v1 = .slice a xs.length c ∧ xs.length ≤ maxLen ∧ Rd W.heap.size W (.slice a xs.length c) xs := by
  obtain ⟨a1, len, cap, rfl⟩ := okWide_slice Tryf.underlying22 hval
  obtain ⟨fuel, hf⟩ := h1
  rcases open_ints Tryf.underlying22 Tryf.underlying5 cells5 hf with ⟨hcs, hx⟩ | ⟨a, len', cap', zs, hcs, _, hl, hm, hz, hx, hcell, hwz⟩
  · simp [Value.cells] at hcs
    obtain ⟨rfl, rfl, rfl⟩ := hcs
    exact ⟨none, 0, [], rfl, by simp, ⟨none, 0, rfl, .inl rfl⟩⟩
  · simp [Value.cells] at hcs
    obtain ⟨rfl, rfl, rfl⟩ := hcs
    simp only [if_true] at hz
    have hlen : ((zs.take len).map (fun z => UInt8.ofNat z.toNat)).length = len := by rw [List.length_map, List.length_take]; omega
    refine ⟨some a, cap, (zs.take len).map (fun z => UInt8.ofNat z.toNat), by rw [hlen], by rw [hlen]; omega, ?_⟩
    refine ⟨some a, cap, rfl, ?_⟩
    rcases Nat.eq_zero_or_pos len with h0 | h0
    · left; subst h0; simp
    · right
      obtain ⟨b, off, spot⟩ := a
      have h00 := hcell 0 (by omega)
      have hspot : spot = none := by simpa [Addr.add] using World.cell?_spot h00
      subst hspot
      refine ⟨b, off, rfl, ?_, fun i hi => ?_⟩
      · have := World.block_lt_of_cell? _ _ h00
        simpa [Addr.add] using this
      · rw [hlen] at hi
        have hc := hcell i (by omega)
        have hadd : (⟨b, off, none⟩ : Addr).add i = ⟨b, off + i, none⟩ := by unfold Addr.add; split <;> simp_all
        rw [hadd] at hc
        rw [hc]
        have hzi : i < zs.length := by omega
        have hb := hwz (zs[i]) (List.getElem_mem hzi)
        have hb' := bounds_u8 hb
        have e1 : zs.getD i 0 = zs[i] := by simp [List.getD, hzi]
        have e2 : ((zs.take len).map (fun z => UInt8.ofNat z.toNat)).getD i 0 = UInt8.ofNat (zs[i]).toNat := by
          simp [List.getD, hi, hzi]
        rw [e1, e2]
        have e3 : (UInt8.ofNat (zs[i]).toNat).toNat = (zs[i]).toNat := by
          simp; omega
        rw [e3]
        congr 2
        omega

end Go.Proofs.Qxb6002351aFmt
