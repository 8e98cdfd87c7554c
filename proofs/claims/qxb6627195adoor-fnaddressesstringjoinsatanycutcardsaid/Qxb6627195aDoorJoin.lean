/-
  Seat b6627195aD: '(*Addresses).String' (7).
-/
import Derived.Test.Qxb6627195aDoorFrom
import Derived.Test.Qxb6627195aDoorShelf
namespace Go.Proofs.Qxb6627195aDoor
open Go.RowKit
set_option linter.unusedSimpArgs false
set_option linter.unusedVariables false

theorem made_strings (w : World) (n : Nat) (hn : n ≤ 4294967296) : (Instr.makeSlice 41 (.int .i64 (n : Int)) (.int .i64 (n : Int))).run Tryd.prog w = .ok (.slice (some ⟨w.heap.size, 0, none⟩) n n) (w.alloc (.cells (madeCells #[.string ⟨#[]⟩] n) 9)) :=
  run_make_row' 41 9 (.string ⟨#[]⟩) 16 Tryd.underlying41 info9 rfl .i64 .i64 n (by omega) (by omega) w

def strCell (Q : List Q4) (k j : Nat) : Value := if j < k then .string (strOf (quad (nth Q j))) else .string ⟨#[]⟩

def StrAt (w wr : World) (S G N : Nat) (Q : List Q4) (z : Addr) (i : Value) : Prop :=
  ∃ k : Nat, k ≤ N ∧ i = .int .i64 k ∧ wr.rowIs S 9 N (strCell Q k) ∧ wr.rowIs G 39 (N * 3) (acell Q z) ∧ Laid wr z ∧ Below w.heap.size w wr

theorem strCell_step {w : World} {S N k : Nat} {Q : List Q4} (h : w.rowIs S 9 N (strCell Q k)) : (w.setCell ⟨S, k, none⟩ (.string (strOf (quad (nth Q k))))).rowIs S 9 N (strCell Q (k + 1)) := by
  refine (h.set k _).congr (fun i _ => ?_)
  by_cases hi : i = k
  · subst hi; simp [strCell]
  · by_cases h2 : i < k
    · simp [strCell, hi, h2, show i < k + 1 by omega]
    · simp [strCell, hi, h2, show ¬ i < k + 1 by omega]

set_option maxHeartbeats 1000000 in
theorem addrsString (w : World) (B G N : Nat) (Q : List Q4) (hok : ∀ q ∈ Q, q.Ok) (hN : Q.length = N) (hn : N ≤ 262144) (z : Addr) (hz : Laid w z)
    (hB : w.heap[B]? = some (Obj.cells #[.slice (some ⟨G, 0, none⟩) N N] 31 (0, 0))) (hG : w.rowIs G 39 (N * 3) (acell Q z)) :
    Calls Tryd.prog 7 #[.pointer (some ⟨B, 0, none⟩)] w fun e w' => e = .returned (.string (strOf (spell Q))) ∧ Hid (Below w.heap.size w w') := by
  obtain ⟨w0, hw0⟩ : ∃ w0, w.alloc (.cells (madeCells #[.string ⟨#[]⟩] N) 9) = w0 := ⟨_, rfl⟩
  obtain ⟨S, hS⟩ : ∃ S, w.heap.size = S := ⟨_, rfl⟩
  have hmk := made_strings w N (by omega)
  rw [hw0, hS] at hmk
  have b0 : Below w.heap.size w w0 := by rw [← hw0]; exact (Below.refl _ _).alloc (Nat.le_refl _) _
  have R0 : w0.rowIs S 9 N (fun _ => .string ⟨#[]⟩) := by rw [← hw0, ← hS]; exact World.rowIs_made w _ _ 9
  have ch := headed hB
  have dh := (b0.cell (World.block_lt_of_cell? w _ ch)).trans ch
  have HC0 : Hid (StrAt w w0 S G N Q z (.int .i64 0)) := ⟨0, Nat.zero_le _, rfl, R0.congr (fun i _ => by simp [strCell]), hG.of_block (b0.block G hG.lt), hz.grown b0, b0⟩
  have hGS : G < S := by rw [← hS]; exact hG.lt
  have hS0 : 0 ≠ S := by have := World.block_lt_of_cell? w _ hz.1; simp only at this; omega
  have hS1 : 1 ≠ S := by have := World.block_lt_of_cell? w _ hz.2; simp only at this; omega
  clear hw0 hB hG hz R0 b0
  go_enter Tryd.func7, Tryd.ntmps7
  go_wp2
  go_loopw [15] (fun i wr => Hid (StrAt w wr S G N Q z i)) (fun i _ => N - (intOf i).toNat)
  case atStart => exact HC0
  case round =>
    obtain ⟨k, hk, rfl, hR, hG, hz, hbel⟩ := hrel.out
    clear hrel HC0
    by_cases hlt : k < N
    · have hk' : k < Q.length := by omega
      have hq := hok _ (List.mem_of_getElem? (nth_some hk'))
      have a0 := hG.cell (i := k * 3) (by omega)
      have a1 := hG.cell (i := k * 3 + 1) (by omega)
      have a2 := hG.cell (i := k * 3 + 2) (by omega)
      simp only [acell, show (k * 3) % 3 = 0 by omega, show (k * 3 + 1) % 3 = 1 by omega, show (k * 3 + 2) % 3 = 2 by omega, show (k * 3 + 1) / 3 = k by omega, if_true, if_false, show ¬ (1 = 0) by omega, show ¬ (2 = 0) by omega, show ¬ (2 = 1) by omega] at a0 a1 a2
      have hlt' : (k : Int) < (N : Int) := by omega
      have hGl := hG.lt
      have HR : Hid (wr.rowIs S 9 N (strCell Q k)) := hR
      have HG : Hid (wr.rowIs G 39 (N * 3) (acell Q z)) := hG
      have HZ : Hid (Laid wr z) := hz
      clear hR hG hz
      obtain ⟨V, hV⟩ : ∃ V, wr.heap.size = V := ⟨_, rfl⟩
      go_wp2_with fail
      obtain ⟨w1, hw1⟩ : ∃ w1, wr.alloc (.cells #[.int .u64 0, .int .u64 ((loN (nth Q k) : Nat) : Int), .pointer (some z)] 39) = w1 := ⟨_, rfl⟩
      have b1 : Below wr.heap.size wr w1 := by rw [← hw1]; exact (Below.refl _ _).alloc (Nat.le_refl _) _
      rw [hw1]
      clear hw1 a0 a1 a2
      refine (addrString w1 (nth Q k) hq z (HZ.out.grown b1)).mono ?_
      rintro e w2 ⟨rfl, H⟩
      have b2 : Below wr.heap.size wr w2 := b1.trans (H.out.mono b1.size)
      have R2 := HR.out.of_block (b2.block S HR.out.lt)
      have r0 := R2.cell (i := k) (by omega)
      have f0 := R2.frozen k
      have HX : Hid (StrAt w (w2.setCell ⟨S, k, none⟩ (.string (strOf (quad (nth Q k))))) S G N Q z (.int .i64 ((k + 1 : Nat) : Int))) := by
        refine ⟨k + 1, by omega, rfl, strCell_step R2, (HG.out.of_block (b2.block G hGl)).setOther (by simp only; omega) _, ?_, ?_⟩
        · obtain ⟨z0, z1⟩ := HZ.out.grown b2
          exact ⟨(World.cell?_of_block (Below.heap_setCell _ _ _ _ hS0)).trans z0, (World.cell?_of_block (Below.heap_setCell _ _ _ _ hS1)).trans z1⟩
        · exact (hbel.trans (b2.mono hbel.size)).setCell (p := ⟨S, k, none⟩) (by simp only; omega) _
      clear R2 b1 b2 H HZ HG HR hbel
      go_wp2
      go_roundw
      case rel => exact HX
      case measure => simp [intOf]; omega
    · obtain rfl : k = N := by omega
      clear dh ch
      go_wp2_with fail
      have hx : (Q.map (fun q => strOf (quad q))).length = k := by simpa using hN
      have hj : Lib.join ((Q.map (fun q => strOf (quad q))).map (·.data.toList)) ((⟨#[44]⟩ : ByteArray)).data.toList = spell Q := by
        unfold spell
        rw [List.map_map]
        rfl
      have hsl := spell_length Q k
      have hsp : spellTo Q k = spell Q := by unfold spellTo; rw [← hN, List.take_length]
      rw [hsp] at hsl
      have hJ := Tryd.strings_Join S 0 k (Q.map (fun q => strOf (quad q))) ⟨#[44]⟩ wr (by
        intro j x hjx
        have hjl : j < Q.length := by
          have := (List.getElem?_eq_some_iff.1 hjx).1
          simpa using this
        rw [Nat.zero_add, hR.cell (by omega)]
        rw [List.getElem?_map, nth_some hjl] at hjx
        simp only [Option.map_some, Option.some.injEq] at hjx
        simp [strCell, show j < k by omega, hjx]) hR.lt (by omega) (by omega) (by rw [hj]; omega)
      rw [hx, hj] at hJ
      refine hJ.mono ?_
      rintro e w2 ⟨rfl, H⟩
      have HB : Hid (Below w.heap.size w w2) := hbel.trans (H.mono hbel.size)
      clear H hbel hR hG hz hJ
      go_wp2
      go_ret
      exact ⟨rfl, HB⟩

end Go.Proofs.Qxb6627195aDoor
