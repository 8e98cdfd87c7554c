/-
  Seat b6627195aD: '(netip.Addr).String' (13) at an address in its IPv4 form.
-/
import Derived.Test.Qxb6627195aDoorAddr
import Derived.Laws.BytesString
namespace Go.Proofs.Qxb6627195aDoor
open Go.RowKit
set_option linter.unusedSimpArgs false
set_option linter.unusedVariables false

theorem fold_bytes : ∀ (t : List UInt8) (acc : ByteArray), (t.map (fun c => (c.toNat : Int))).foldl (fun (r : ByteArray) (n : Int) => r.push (UInt8.ofNat n.toNat)) acc = ⟨acc.data ++ t.toArray⟩
  | [], acc => by simp
  | c :: t, acc => by
    rw [List.map_cons, List.foldl_cons, fold_bytes t]
    have e : (acc.push (UInt8.ofNat ((c.toNat : Int)).toNat)).data = acc.data.push c := by
      have : UInt8.ofNat ((c.toNat : Int)).toNat = c := by simp
      rw [this]; rfl
    rw [e]
    simp

/-- The text of bytes as a string. -/
def strOf (t : List UInt8) : ByteArray := ⟨t.toArray⟩

theorem Buf.toString {w : World} {g cap : Nat} {t : List UInt8} (h : Buf w g cap t) (k : Nat) (hk : k = t.length) : (convert 43 9 (.slice (some ⟨g, 0, none⟩) k cap)).run Tryd.prog w = .ok (.string (strOf t)) w := by
  subst hk
  rw [run_convert_bytes_string w 43 9 5 _ _ _ Tryd.underlying43 Tryd.underlying5 Tryd.underlying9]
  have hl := run_loadCells_list (P := Tryd.prog) w ⟨g, 0, none⟩ (t.map byteV) (World.ownsRow.cells h rfl)
  have e : t.map byteV = (t.map (fun c => (c.toNat : Int))).map (Value.int .u8) := by simp [byteV]
  rw [List.length_map, e] at hl
  rw [run_bytesToString w _ _ _ _ hl, fold_bytes]
  have e0 : ByteArray.empty.data = #[] := rfl
  rw [e0]
  simp [strOf]

theorem make15 (w : World) : (Instr.makeSlice 43 (.int .i64 0) (.int .i64 15)).run Tryd.prog w = .ok (.slice (some ⟨w.heap.size, 0, none⟩) 0 15) (w.alloc (.cells (Array.replicate 15 (.int .u8 0)) 5)) := by kernel_rfl

theorem buf_made (w : World) (n : Nat) (hn : n ≤ maxLen) : Buf (w.alloc (.cells (Array.replicate n (.int .u8 0)) 5)) w.heap.size n [] :=
  World.ownsRow_made w _ n (Nat.zero_le _) hn (by simp)

theorem Laid.grown {w w' : World} {z : Addr} (h : Laid w z) (hb : Below w.heap.size w w') : Laid w' z := by
  obtain ⟨h0, h1⟩ := h
  have l0 := World.block_lt_of_cell? w _ h0
  have l1 := World.block_lt_of_cell? w _ h1
  exact ⟨(hb.cell l0).trans h0, (hb.cell l1).trans h1⟩

set_option maxHeartbeats 1000000 in
theorem addrString (w : World) (q : Q4) (hq : q.Ok) (z : Addr) (hz : Laid w z) :
    Calls Tryd.prog 13 #[.agg #[.int .u64 0, .int .u64 ((loN q : Nat) : Int), .pointer (some z)]] w fun e w' => e = .returned (.string (strOf (quad q))) ∧ Hid (Below w.heap.size w w') := by
  obtain ⟨N, hN⟩ : ∃ N, w.heap.size = N := ⟨_, rfl⟩
  go_enter Tryd.func13, Tryd.ntmps13
  go_wp2_with fail
  obtain ⟨w0, hw0⟩ : ∃ w0, w.alloc (.cells #[.int .u64 0, .int .u64 ((loN q : Nat) : Int), .pointer (some z)] 39) = w0 := ⟨_, rfl⟩
  have x0 : w0.heap[N]? = some (Obj.cells #[.int .u64 0, .int .u64 ((loN q : Nat) : Int), .pointer (some z)] 39 (0, 0)) := by rw [← hw0, ← hN]; exact heap_alloc_new w _
  have b0 : Below w.heap.size w w0 := by rw [← hw0]; exact (Below.refl _ _).alloc (Nat.le_refl _) _
  have L0 := hz.grown b0
  rw [hw0]
  clear hw0
  refine (isValid _ _ z L0).mono ?_
  rintro e w1 ⟨rfl, H⟩
  have L1 := L0.grown H.out
  have x1 := (H.out.block N (Array.getElem?_eq_some_iff.1 x0).1).trans x0
  have b1 := b0.trans (H.out.mono b0.size)
  clear L0 H x0 b0
  have hz0 := L1.1
  have hl := World.block_lt_of_cell? w1 _ hz0
  simp only at hl
  obtain ⟨c0, c1, c2⟩ := boxed x1
  have heq := eql_z4
  have hNl := (Array.getElem?_eq_some_iff.1 x1).1
  obtain ⟨w2, hw2⟩ : ∃ w2, w1.alloc (.cells (Array.replicate 15 (.int .u8 0)) 5) = w2 := ⟨_, rfl⟩
  have hmk := make15 w1
  rw [hw2] at hmk
  obtain ⟨g, hg⟩ : ∃ g, w1.heap.size = g := ⟨_, rfl⟩
  have b2 : Below w1.heap.size w1 w2 := by rw [← hw2]; exact (Below.refl _ _).alloc (Nat.le_refl _) _
  have B2 : Buf w2 g 15 [] := by rw [← hw2, ← hg]; exact buf_made w1 15 (by decide)
  have x2 := (b2.block N (Array.getElem?_eq_some_iff.1 x1).1).trans x1
  obtain ⟨d0, d1, d2⟩ := boxed x2
  have hgw : w.heap.size ≤ g := by rw [← hg]; exact b1.size
  rw [hg] at hmk
  have b3 := b1.trans (b2.mono b1.size)
  clear hw2 b1 b2 L1
  go_wp2_with fail
  refine (appendTo4 w2 q hq z g 15 B2 (by omega)).mono ?_
  rintro e w3 ⟨rfl, H, H'⟩
  have b4 := b3.grown H'.out b3.size (by intro k hk; cases hk; exact hgw)
  have hcv := H.out.toString _ rfl
  clear B2 b3 H H' d0 d1 d2 c0 c1 c2 hz0 hmk heq x1 x2
  go_wp2_with fail
  go_ret
  exact ⟨rfl, b4⟩

end Go.Proofs.Qxb6627195aDoor
