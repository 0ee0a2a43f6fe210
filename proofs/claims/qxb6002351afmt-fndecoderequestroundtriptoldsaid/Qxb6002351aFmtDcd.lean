/-
  Seat b6002351aF: decodeRequest and ZZDecodeRequest, by what they give.
-/
import Derived.Test.Qxb6002351aFmtReq
import Derived.Test.Qxb6002351aFmtMsg
namespace Go.Proofs.Qxb6002351aFmt
open Go.RowKit Go.Extern.Stop Go.Stop Go.Extern

/-- The byte that lies at an address. -/
def byteAt (w : World) (a : Addr) : UInt8 := match w.cell? a with
  | some (.int _ x) => UInt8.ofNat x.toNat
  | _ => 0
/-- The bytes of a slice. -/
def bytesAt (w : World) : Value → List UInt8
  | .slice (some a) n _ => (List.range n).map fun i => byteAt w ⟨a.block, a.off + i, none⟩
  | _ => []

theorem bytesAt_of {Bd : Nat} {w : World} {v : Value} {xs : List UInt8} (h : Rd Bd w v xs) : bytesAt w v = xs := by
  obtain ⟨a, c, rfl, hc⟩ := h
  rcases hc with rfl | ⟨b, off, rfl, _, hc⟩
  · cases a <;> simp [bytesAt]
  · simp only [bytesAt]
    apply List.ext_getElem
    · simp
    · intro i h1 h2
      have := hc i h2
      simp [byteAt, this, List.getD, h2]

/-- Blocks below Bd as they were: the same bytes. -/
theorem Rd.same {Bd : Nat} {w w' : World} {v : Value} {xs : List UInt8} (h : Rd Bd w v xs) (hs : ∀ k, k < Bd → w'.heap[k]? = w.heap[k]?) : Rd Bd w' v xs := by
  obtain ⟨a, c, hv, hc⟩ := h
  refine ⟨a, c, hv, ?_⟩
  rcases hc with hc | ⟨b, off, ha, hlt, hc⟩
  · exact .inl hc
  · refine .inr ⟨b, off, ha, hlt, fun i hi => ?_⟩
    rw [World.cell?_of_block (a := ⟨b, off + i, none⟩) (hs b hlt)]
    exact hc i hi

/-- Where the decoder stands, read by read. -/
def d0 (l : List UInt8) : S := (l, true)
def d1 (l : List UInt8) : S := byN (d0 l)
def d2 (l : List UInt8) : S := byN (d1 l)
def d3 (l : List UInt8) : S := byN (d2 l)
def d4 (l : List UInt8) : S := byN (d3 l)
def d5 (l : List UInt8) : S := byN (d4 l)
def d6 (l : List UInt8) : S := enN (d5 l)
def d7 (l : List UInt8) : S := nx 8 (d6 l)
def d8 (l : List UInt8) : S := nx 8 (d7 l)
def d9 (l : List UInt8) : S := byN (d8 l)
def st (l : List UInt8) (i : Nat) : S := match i with
  | 0 => d0 l
  | 1 => d1 l
  | 2 => d2 l
  | 3 => d3 l
  | 4 => d4 l
  | 5 => d5 l
  | 6 => d6 l
  | 7 => d7 l
  | 8 => d8 l
  | _ => d9 l

/-- The request that the bytes l are read as. -/
def reqOf (l : List UInt8) : Req :=
  ⟨by_ (st l 0), by_ (st l 1), by_ (st l 2), by_ (st l 3), by_ (st l 4), by_ (st l 5), num 4 (byN (st l 5)), num 8 (nx 4 (byN (st l 5))), num 8 (nx 8 (nx 4 (byN (st l 5)))), num 8 (st l 6), num 8 (st l 7), by_ (st l 8)⟩
/-- .. and whether it is accepted. -/
def fits (l : List UInt8) : Prop := st l 9 = ([], true)

/-- The error that comes back. -/
def Err (l : List UInt8) (er : Value) : Prop := (fits l ∧ er = .nilIface) ∨ (¬ fits l ∧ ∃ ty u, er = .iface ty u)

/-- The fields of a request as values. -/
def reqVals (r : Req) (v6 v9 : Value) : Array Value :=
  #[.string (B r.op), .string (B r.cache), .string (B r.frm), .string (B r.key), .string (B r.mode), v6, .int .u32 (r.flags : Int), .int .i64 (s64 r.expires), .int .u64 (r.cas : Int), .int .u64 (r.delta : Int), .int .u64 (r.view : Int), v9]

/-- decodeRequest. -/
theorem decode_any (F : Interp) (Bd : Nat) (a : Option Addr) (c : Nat) (l : List UInt8) (w : World) (hF : F.answers w.tape) (hB : Bd ≤ w.heap.size) (hv : Rd Bd w (.slice a l.length c) l) (hc : l.length ≤ c) :
    Calls Tryf.prog 17 #[.slice a l.length c] w fun e w' => ∃ a6 n6 c6 a9 n9 c9 er, e = .returned (.tuple #[.agg (reqVals (reqOf l) (.slice a6 n6 c6) (.slice a9 n9 c9)), er]) ∧ Err l er ∧ Rd Bd w (.slice a6 n6 c6) (reqOf l).value ∧ Rd Bd w (.slice a9 n9 c9) (reqOf l).data ∧ w.grownBy w' none := by
  obtain ⟨D, hD⟩ : ∃ D, D = w.heap.size + 1 := ⟨_, rfl⟩
  obtain ⟨w0, hw0⟩ : ∃ w0, w0 = (w.alloc Zreq).alloc (.cells #[.slice a l.length c, .nilIface] 51) := ⟨_, rfl⟩
  have hs0 : w0.heap.size = w.heap.size + 2 := by rw [hw0]; simp
  have hg0 : w.grownBy w0 none := by rw [hw0]; exact (World.grownBy_alloc _ _ _).trans (World.grownBy_alloc _ _ _)
  -- the blocks below are as they were
  have hsame : ∀ w1, Ap (fun w1 => w0.grownBy w1 (some D)) w1 → ∀ k, k < Bd → w1.heap[k]? = w.heap[k]? := by
    intro w1 h k hk0
    have hk : k < w.heap.size := by omega
    have h' : w0.grownBy w1 (some D) := h
    rw [h'.block k (by omega) (by intro e; cases e; omega), hg0.block k hk (by simp)]
  have tape : ∀ w1, Ap (fun w1 => w0.grownBy w1 (some D)) w1 → F.answers w1.tape := by
    intro w1 h
    have h' : w0.grownBy w1 (some D) := h
    rw [h'.tape, hg0.tape]; exact hF
  have cnv : ∀ (t : TypeId) (ht : Tryf.prog.underlying t = some .string) (w1 : World) (v : Value), Ap (fun w1 => w0.grownBy w1 (some D)) w1 → Av (fun v => ∃ T, Rd Bd w v T) v → (convert 22 t v).run Tryf.prog w1 = .ok (.string (B (bytesAt w v))) w1 := by
    intro t ht w1 v hQ hG
    obtain ⟨T, hT⟩ := hG
    rw [bytesAt_of hT]
    exact conv_any (hT.same (hsame w1 hQ)) t ht
  have byt : ∀ (s : S) (w1 : World), Dp w1 D Bd s → Ap (fun w1 => w0.grownBy w1 (some D)) w1 → Calls Tryf.prog 18 #[.pointer (some ⟨D, 0, none⟩)] w1 fun e w' => ∃ a n c, e = .returned (.slice a n c) ∧ Av (fun v => ∃ T, Rd Bd w v T) (.slice a n c) ∧ Rd Bd w (.slice a n c) (by_ s) ∧ Dp w' D Bd (byN s) ∧ Ap (fun w1 => w0.grownBy w1 (some D)) w' ∧ w1.grownBy w' (some D) := by
    intro s w1 hd hQ
    refine (bytes_any D Bd s w1 hd).mono ?_
    rintro e w2 ⟨v, rfl, hr, hd2, hg⟩
    have hQ2 : Ap (fun w1 => w0.grownBy w1 (some D)) w2 := World.grownBy.trans hQ hg
    have hr' : Rd Bd w v (by_ s) := hr.same (fun k hk => (hsame w2 hQ2 k hk).symm)
    have hr2 := hr'
    obtain ⟨a', c', rfl, -⟩ := hr2
    exact ⟨_, _, _, rfl, ⟨_, hr'⟩, hr', hd2, hQ2, hg⟩
  have u8 : ∀ (s : S) (w1 : World), Dp w1 D Bd s → Ap (fun w1 => w0.grownBy w1 (some D)) w1 → Calls Tryf.prog 20 #[.pointer (some ⟨D, 0, none⟩)] w1 fun e w' => e = .returned (.int .u64 ((num 8 s : Nat) : Int)) ∧ Dp w' D Bd (nx 8 s) ∧ Ap (fun w1 => w0.grownBy w1 (some D)) w' ∧ w1.grownBy w' (some D) := by
    intro s w1 hd hQ
    refine (u64_any D Bd s.1 s.2 w1 hd).mono ?_
    rintro e w2 ⟨rfl, hd2, hg⟩
    exact ⟨rfl, hd2, World.grownBy.trans hQ hg, hg⟩
  have H := decode_walk D a l.length c (num 4 (byN (st l 5)) : Nat) (s64 (num 8 (nx 4 (byN (st l 5))))) (num 8 (nx 8 (nx 4 (byN (st l 5)))) : Nat) (num 8 (st l 6) : Nat) (num 8 (st l 7) : Nat) w hD
    (fun i w1 => Dp w1 D Bd (st l i)) (fun w1 => w0.grownBy w1 (some D)) (fun v => ∃ T, Rd Bd w v T)
    (fun k v => Rd Bd w v (by_ (st l (k - 1)))) (fun v => B (bytesAt w v)) (Err l)
    (fun i w1 o h => Dp.grown h (World.grownBy_alloc _ _ _)) (fun i w1 h => Dp.grown h (grown_drew _ _))
    (fun i w1 p j u hp h => Dc.grown h (grown_set _ _ _) (fun j hj => by cases hj; exact hp))
    (fun w1 o h => World.grownBy.trans h (World.grownBy_alloc _ _ _)) (fun w1 h => World.grownBy.trans h (grown_drew _ _))
    (fun w1 h => by have h' : w0.grownBy w1 (some D) := h; have := h'.size; omega)
    (fun w1 p j u hp h => World.grownBy.andThen h (grown_set _ _ _) (fun j hj => by cases hj; left; show w0.heap.size ≤ p; omega))
    (fun w1 v => cnv 41 Tryf.underlying41 w1 v) (fun w1 v => cnv 42 Tryf.underlying42 w1 v) (fun w1 v => cnv 9 Tryf.underlying9 w1 v)
    ?p0 (by rw [← hw0]; exact World.grownBy.refl _ _)
    (byt (st l 0)) (byt (st l 1)) (byt (st l 2)) (byt (st l 3)) (byt (st l 4)) ?p6 (u8 (st l 6)) (u8 (st l 7)) (byt (st l 8)) ?qf ?qr ?p10
  case p0 =>
    rw [← hw0]
    refine ⟨a, c, .nilIface, ?_, hc, by omega, hv.same (fun k hk => hg0.block k (by omega) (by simp)), .inl ⟨rfl, rfl⟩⟩
    have hD' : D = (w.alloc Zreq).heap.size := by rw [hD]; simp
    rw [hw0, hD']
    refine ⟨_, Go.Deep.blk_alloc_new _ _, rfl, ?_⟩
    intro i hi
    match i, hi with
    | 0, _ | 1, _ => rfl
  case p6 =>
    intro w1 hd hQ
    refine (entry_any D Bd (st l 5) w1 hd).mono ?_
    rintro e w2 ⟨v, rfl, hr, hd2, hg⟩
    have hQ2 : Ap (fun w1 => w0.grownBy w1 (some D)) w2 := World.grownBy.trans hQ hg
    have hr' : Rd Bd w v (by_ (st l 5)) := hr.same (fun k hk => (hsame w2 hQ2 k hk).symm)
    have hr2 := hr'
    obtain ⟨a', c', rfl, -⟩ := hr2
    exact ⟨_, _, _, rfl, hr', hd2, hQ2, hg⟩
  case qf =>
    intro w1 h
    have h' : w0.grownBy w1 (some D) := h
    exact hg0.andThen h' (fun j hj => by cases hj; left; omega)
  case qr =>
    intro w1 h
    have h' : w0.grownBy w1 (some D) := h
    refine row_far ?_ h' (by omega)
    rw [hw0]
    exact (row_new w).alloc _
  case p10 =>
    intro w1 hd hQ
    refine (end_any F D Bd (st l 9) w1 (tape w1 hQ) hd).mono ?_
    rintro e w2 ⟨er, rfl, he, hg⟩
    exact ⟨er, rfl, he, World.grownBy.trans hQ hg, hg⟩
  refine H.mono ?_
  rintro e w' ⟨v1, v2, v3, v4, v5, a6, n6, c6, a9, n9, c9, er, rfl, hE, ⟨r1, r2, r3, r4, r5, r6, r9⟩, hg⟩
  refine ⟨a6, n6, c6, a9, n9, c9, er, ?_, hE, r6, r9, hg⟩
  have b1 := bytesAt_of r1
  have b2 := bytesAt_of r2
  have b3 := bytesAt_of r3
  have b4 := bytesAt_of r4
  have b5 := bytesAt_of r5
  simp only [b1, b2, b3, b4, b5]
  rfl

end Go.Proofs.Qxb6002351aFmt
