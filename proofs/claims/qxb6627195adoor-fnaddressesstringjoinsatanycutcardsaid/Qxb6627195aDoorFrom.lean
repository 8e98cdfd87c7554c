/-
  Seat b6627195aD: 'ZZaddressesFrom4' (6).
-/
import Derived.Test.Qxb6627195aDoorQuads
import Derived.Deep.RegionHeld3
namespace Go.Proofs.Qxb6627195aDoor
open Go.RowKit
set_option linter.unusedSimpArgs false
set_option linter.unusedVariables false

theorem info39 : (Tryd.prog.info? 39).map (fun i => (i.zero, i.size, i.bytes)) = some (some (.agg #[.int .u64 0, .int .u64 0, .pointer none]), 3, 24) := by kernel_rfl
theorem info24 : (Tryd.prog.info? 24).map (fun i => (i.zero, i.size, i.bytes)) = some (some (.agg #[.int .u8 0, .int .u8 0, .int .u8 0, .int .u8 0]), 4, 4) := by kernel_rfl
theorem info9 : (Tryd.prog.info? 9).map (fun i => (i.zero, i.size, i.bytes)) = some (some (.string ⟨#[]⟩), 1, 16) := by kernel_rfl
theorem made_addrs (w : World) (n : Nat) (hn : n ≤ 4294967296) : (Instr.makeSlice 31 (.int .i64 (n : Int)) (.int .i64 (n : Int))).run Tryd.prog w = .ok (.slice (some ⟨w.heap.size, 0, none⟩) n n) (w.alloc (.cells (madeCells #[.int .u64 0, .int .u64 0, .pointer none] (n * 3)) 39)) := by
  obtain ⟨i0, hi, hz0, hz1, hz2⟩ := info_parts info39
  have := run_make (P := Tryd.prog) w 31 39 i0 _ Tryd.underlying31 hi hz0 .i64 .i64 n n (by omega) (by omega) (by rw [hz2]; omega) (by omega)
  rw [this, hz1]
  rfl

theorem rowIs_made_any (w : World) (Z : Array Value) (n : Nat) (t : TypeId) : (w.alloc (.cells (madeCells Z n) t)).rowIs w.heap.size t n (fun j => Z[j % Z.size]!) :=
  ⟨madeCells Z n, heap_alloc_new _ _, size_madeCells _ _, fun i hi => by simp [madeCells, hi]⟩

def acell (Q : List Q4) (z : Addr) (j : Nat) : Value :=
  if j % 3 = 0 then .int .u64 0 else if j % 3 = 1 then .int .u64 ((loN (nth Q (j / 3)) : Nat) : Int) else .pointer (some z)

def zcell (j : Nat) : Value := if j % 3 = 0 then .int .u64 0 else if j % 3 = 1 then .int .u64 0 else .pointer none

theorem zcell_eq (j : Nat) : (#[Value.int .u64 0, .int .u64 0, .pointer none] : Array Value)[j % 3]! = zcell j := by
  have : j % 3 = 0 ∨ j % 3 = 1 ∨ j % 3 = 2 := by omega
  rcases this with h | h | h <;> simp [zcell, h]

def FromPost (Q : List Q4) (z : Addr) (w : World) (e : Ending) (w' : World) : Prop :=
  ∃ B G, e = .returned (.pointer (some ⟨B, 0, none⟩)) ∧ w'.heap[B]? = some (Obj.cells #[.slice (some ⟨G, 0, none⟩) Q.length Q.length] 31 (0, 0)) ∧ w'.rowIs G 39 (Q.length * 3) (acell Q z) ∧ Below w.heap.size w w'

def FromAt (w wr : World) (B G N : Nat) (p : Option Addr) (Q : List Q4) (z : Addr) (i : Value) : Prop :=
  ∃ k : Nat, k ≤ N ∧ i = .int .i64 k ∧ wr.heap[B]? = some (Obj.cells #[.slice (some ⟨G, 0, none⟩) N N] 31 (0, 0)) ∧ wr.rowIs G 39 (N * 3) (fun j => if j < k * 3 then acell Q z j else zcell j) ∧ Quads wr p Q ∧ Laid wr z ∧ Below w.heap.size w wr

theorem headed {w : World} {B : Nat} {x : Value} (h : w.heap[B]? = some (Obj.cells #[x] 31 (0, 0))) : w.cell? ⟨B, 0, none⟩ = some x := by
  simp [World.cell?, h]

theorem below_cells {w w' : World} {p : Addr} {v : Value} (h : Below w.heap.size w w') (hc : w.cell? p = some v) : w'.cell? p = some v :=
  (h.cell (World.block_lt_of_cell? w _ hc)).trans hc

theorem set3_block (w : World) (G a b c k : Nat) (x y t : Value) (hne : k ≠ G) : (((w.setCell ⟨G, a, none⟩ x).setCell ⟨G, b, none⟩ y).setCell ⟨G, c, none⟩ t).heap[k]? = w.heap[k]? := by
  rw [Below.heap_setCell _ _ _ _ hne, Below.heap_setCell _ _ _ _ hne, Below.heap_setCell _ _ _ _ hne]

theorem set3 {w : World} {G a b c k o : Nat} {v x y t : Value} (hne : k ≠ G) (h : w.cell? ⟨k, o, none⟩ = some v) : (((w.setCell ⟨G, a, none⟩ x).setCell ⟨G, b, none⟩ y).setCell ⟨G, c, none⟩ t).cell? ⟨k, o, none⟩ = some v :=
  (World.cell?_of_block (set3_block w G a b c k x y t hne)).trans h

theorem rowIs_ne {w : World} {b b' : Nat} {t t' : TypeId} {n n' : Nat} {f f' : Nat → Value} (h : w.rowIs b t n f) (h' : w.rowIs b' t' n' f') (ht : t ≠ t') : b ≠ b' := by
  rintro rfl
  obtain ⟨c, e, _⟩ := h
  obtain ⟨c', e', _⟩ := h'
  rw [e] at e'
  simp only [Option.some.injEq, Obj.cells.injEq] at e'
  exact ht e'.2.1

theorem row_step {w : World} {G N k : Nat} {Q : List Q4} {z : Addr} {q : Q4} (hq : nth Q k = q) (h : w.rowIs G 39 (N * 3) (fun j => if j < k * 3 then acell Q z j else zcell j)) :
    (((w.setCell ⟨G, k * 3, none⟩ (.int .u64 0)).setCell ⟨G, k * 3 + 1, none⟩ (.int .u64 ((loN q : Nat) : Int))).setCell ⟨G, k * 3 + 2, none⟩ (.pointer (some z))).rowIs G 39 (N * 3) (fun j => if j < (k + 1) * 3 then acell Q z j else zcell j) := by
  refine (((h.set (k * 3) (.int .u64 0)).set (k * 3 + 1) _).set (k * 3 + 2) _).congr (fun i _ => ?_)
  by_cases h2 : i = k * 3 + 2
  · subst h2
    simp [acell, show (k * 3 + 2) % 3 = 2 by omega, show k * 3 + 2 < (k + 1) * 3 by omega]
  by_cases h1 : i = k * 3 + 1
  · subst h1
    simp [acell, show (k * 3 + 1) % 3 = 1 by omega, show k * 3 + 1 < (k + 1) * 3 by omega, show (k * 3 + 1) / 3 = k by omega, hq]
  by_cases h0 : i = k * 3
  · subst h0
    simp [acell, show k * 3 < (k + 1) * 3 by omega]
  · simp only [h2, h1, h0, if_false]
    by_cases hi : i < k * 3
    · simp [hi, show i < (k + 1) * 3 by omega]
    · simp [hi, show ¬ i < (k + 1) * 3 by omega]

theorem below_undrew {W w1 : World} (h : Below W.drew.heap.size W.drew w1) : Below W.heap.size W w1 := ⟨h.os, h.tape, h.output, h.size, h.block⟩

set_option maxHeartbeats 4000000 in
theorem from4 (w : World) (p : Option Addr) (c N : Nat) (Q : List Q4) (hQ : Quads w p Q) (hN : Q.length = N) (hn : N ≤ 262144) (z : Addr) (hz : Laid w z) :
    Calls Tryd.prog 6 #[.slice p N c] w (FromPost Q z w) := by
  obtain ⟨w0, hw0⟩ : ∃ w0, w.alloc (.cells (madeCells #[.int .u64 0, .int .u64 0, .pointer none] (N * 3)) 39) = w0 := ⟨_, rfl⟩
  obtain ⟨G, hG⟩ : ∃ G, w.heap.size = G := ⟨_, rfl⟩
  have hmk := made_addrs w N (by omega)
  rw [hw0, hG] at hmk
  have b0 : Below w.heap.size w w0 := by rw [← hw0]; exact (Below.refl _ _).alloc (Nat.le_refl _) _
  have R0 : w0.rowIs G 39 (N * 3) zcell := by rw [← hw0, ← hG]; exact (rowIs_made_any w _ _ 39).congr (fun i _ => zcell_eq i)
  clear hw0
  go_enter Tryd.func6, Tryd.ntmps6
  go_wp2
  obtain ⟨B, hB⟩ : ∃ B, w0.heap.size = B := ⟨_, rfl⟩
  obtain ⟨w1, hw1⟩ : ∃ w1, w0.alloc (.cells #[.slice (some ⟨G, 0, none⟩) N N] 31) = w1 := ⟨_, rfl⟩
  have HC0 : Hid (FromAt w w1 B G N p Q z (.int .i64 0)) := by
    have b1 : Below w.heap.size w w1 := by rw [← hw1]; exact b0.alloc b0.size _
    refine ⟨0, Nat.zero_le _, rfl, ?_, ?_, hQ.grown b1, hz.grown b1, b1⟩
    · rw [← hw1, ← hB]; exact heap_alloc_new _ _
    · rw [← hw1]; exact (R0.alloc _).congr (fun i _ => by simp)
  have hGB : G < B := by rw [← hB]; exact R0.lt
  rw [hw1, hB]
  have hG0 : 0 ≠ G := by have := World.block_lt_of_cell? w _ hz.1; simp only at this; omega
  have hG1 : 1 ≠ G := by have := World.block_lt_of_cell? w _ hz.2; simp only at this; omega
  clear hw1 hQ hz b0 R0 hmk
  go_loopw [4] (fun i wr => Hid (FromAt w wr B G N p Q z i)) (fun i _ => N - (intOf i).toNat)
  case atStart => exact HC0
  case round =>
    obtain ⟨k, hk, rfl, hb, hR, hQ, hz, hbel⟩ := hrel.out
    clear hrel HC0
    by_cases hlt : k < N
    · have hk' : k < Q.length := by omega
      obtain ⟨gq, rfl, hgq, hcell⟩ := hQ.at hk'
      have hok := hQ.nth_ok hk'
      have c0 := hcell 0 (by omega)
      have c1 := hcell 1 (by omega)
      have c2 := hcell 2 (by omega)
      have c3 := hcell 3 (by omega)
      have q0 : (nth Q k).at 0 = (nth Q k).a := rfl
      have q1 : (nth Q k).at 1 = (nth Q k).b := rfl
      have q2 : (nth Q k).at 2 = (nth Q k).c := rfl
      have q3 : (nth Q k).at 3 = (nth Q k).d := rfl
      rw [q0] at c0
      rw [q1] at c1
      rw [q2] at c2
      rw [q3] at c3
      clear q0 q1 q2 q3 hcell
      have ch := headed hb
      have hbl : B < wr.heap.size := World.block_lt_of_cell? wr _ ch
      have hGl := hR.lt
      have r0 := hR.cell (i := k * 3) (by omega)
      have r1 := hR.cell (i := k * 3 + 1) (by omega)
      have r2 := hR.cell (i := k * 3 + 2) (by omega)
      have f0 := hR.frozen (k * 3)
      have f1 := hR.frozen (k * 3 + 1)
      have f2 := hR.frozen (k * 3 + 2)
      simp only [show ¬ (k * 3 < k * 3) by omega, show ¬ (k * 3 + 1 < k * 3) by omega, show ¬ (k * 3 + 2 < k * 3) by omega, if_false, zcell, show (k * 3) % 3 = 0 by omega, show (k * 3 + 1) % 3 = 1 by omega, show (k * 3 + 2) % 3 = 2 by omega] at r0 r1 r2
      obtain ⟨q, hq⟩ : ∃ q, nth Q k = q := ⟨_, rfl⟩
      rw [hq] at c0 c1 c2 c3 hok
      have HZ : Hid (Laid wr z) := hz
      have hlt' : (k : Int) < (N : Int) := by omega
      rw [Nat.add_zero] at c0
      have hBG : B ≠ G := by omega
      have hqG : gq ≠ G := by
        obtain ⟨g', e, hr⟩ := hQ.row _ rfl
        cases e
        exact rowIs_ne hr hR (by decide)
      have HR : Hid _ := hR
      have Hq : Hid _ := hq
      have HQ : Hid _ := hQ
      clear hR hq hQ hz
      go_wp2
      go_region_held3 (fun u => u.cell? ⟨B, 0, none⟩ = some (.slice (some ⟨G, 0, none⟩) N N) ∧ u.cell? ⟨gq, k * 4, none⟩ = some (.int .u8 q.a) ∧ u.cell? ⟨gq, k * 4 + 1, none⟩ = some (.int .u8 q.b) ∧ u.cell? ⟨gq, k * 4 + 2, none⟩ = some (.int .u8 q.c) ∧ u.cell? ⟨gq, k * 4 + 3, none⟩ = some (.int .u8 q.d))
        (first | exact ⟨ch, c0, c1, c2, c3⟩ | exact ⟨dh, d0, d1, d2, d3⟩ | exact ⟨set3 hBG dh, set3 hqG d0, set3 hqG d1, set3 hqG d2, set3 hqG d3⟩)
        (first
          | (go_at_call 12; refine (addrFrom4 _ q hok z (by exact HZ.out)).mono ?_; rintro e w2 ⟨rfl, hb2⟩; have dh := below_cells hb2.out (by exact ch); have d0 := below_cells hb2.out (by exact c0); have d1 := below_cells hb2.out (by exact c1); have d2 := below_cells hb2.out (by exact c2); have d3 := below_cells hb2.out (by exact c3); have s0 := below_cells hb2.out (by exact r0); have s1 := below_cells hb2.out (by exact r1); have s2 := below_cells hb2.out (by exact r2); have t0 := (hb2.out.frozen (p := ⟨G, k * 3, none⟩) (by exact hGl)).trans f0; have t1 := (hb2.out.frozen (p := ⟨G, k * 3 + 1, none⟩) (by exact hGl)).trans f1; have t2 := (hb2.out.frozen (p := ⟨G, k * 3 + 2, none⟩) (by exact hGl)).trans f2))
      have HX : Hid (FromAt w (((w2.setCell ⟨G, k * 3, none⟩ (.int .u64 0)).setCell ⟨G, k * 3 + 1, none⟩ (.int .u64 ((loN q : Nat) : Int))).setCell ⟨G, k * 3 + 2, none⟩ (.pointer (some z))) B G N (some ⟨gq, 0, none⟩) Q z (.int .i64 ((k + 1 : Nat) : Int))) := by
        have b2 := below_undrew hb2.out
        have hGw : w.heap.size ≤ G := by omega
        refine ⟨k + 1, by omega, rfl, ?_, ?_, ?_, ?_, ?_⟩
        · rw [set3_block _ _ _ _ _ _ _ _ _ hBG, b2.block B hbl]; exact hb
        · exact row_step Hq.out (World.rowIs.of_block (f := fun j => if j < k * 3 then acell Q z j else zcell j) HR.out (b2.block G hGl))
        · have hQ2 := HQ.out.grown b2
          refine ⟨hQ2.ok, hQ2.nil, fun a ha => ?_⟩
          cases ha
          obtain ⟨g', e, hr⟩ := hQ2.row _ rfl
          cases e
          exact ⟨gq, rfl, hr.of_block (set3_block _ _ _ _ _ _ _ _ _ hqG)⟩
        · obtain ⟨z0, z1⟩ := HZ.out.grown b2
          exact ⟨set3 hG0 z0, set3 hG1 z1⟩
        · have b3 := hbel.trans (b2.mono hbel.size)
          exact ((b3.setCell (p := ⟨G, k * 3, none⟩) hGw _).setCell (p := ⟨G, k * 3 + 1, none⟩) hGw _).setCell (p := ⟨G, k * 3 + 2, none⟩) hGw _
      clear hb2 dh d0 d1 d2 d3 s0 s1 s2 t0 t1 t2 ch c0 c1 c2 c3 r0 r1 r2 f0 f1 f2 HR HQ HZ Hq hb hbel
      go_wp2
      go_roundw
      case rel => exact HX
      case measure => simp [intOf]; omega
    · obtain rfl : k = N := by omega
      have HX : FromPost Q z w (.returned (.pointer (some ⟨B, 0, none⟩))) wr :=
        ⟨B, G, rfl, by rw [hN]; exact hb, by rw [hN]; exact hR.congr (fun i hi => by simp [hi]), hbel⟩
      clear hb hR hQ hz
      go_wp2
      go_ret
      exact HX

end Go.Proofs.Qxb6627195aDoor
