/-
  Seat b6625448a: the visitor that 'ZZEachFieldCollect' hands over (11): three captured variables, each a slice that grows.
-/
import Derived.Test.Qxb6625448aModel
import Derived.Deep.CutBlock
namespace Go.Proofs.Qxb6625448a
open Go.RowKit
set_option linter.unusedSimpArgs false
set_option linter.unusedVariables false

/-- A captured variable's block. -/
def Box (w : World) (b : Nat) (t : TypeId) (v : Value) : Prop := w.heap[b]? = some (Obj.cells #[v] t (0, 0))

theorem Box.cell {w : World} {b : Nat} {t : TypeId} {v : Value} (h : Box w b t v) : w.cell? ⟨b, 0, none⟩ = some v := by
  unfold Box at h; simp [World.cell?, h]
theorem Box.frozen {w : World} {b : Nat} {t : TypeId} {v : Value} (h : Box w b t v) : w.frozen? ⟨b, 0, none⟩ = false := by
  unfold Box at h; simp [World.frozen?, h]
theorem Box.lt {w : World} {b : Nat} {t : TypeId} {v : Value} (h : Box w b t v) : b < w.heap.size := (Array.getElem?_eq_some_iff.1 h).1
theorem Box.set {w : World} {b : Nat} {t : TypeId} {v : Value} (h : Box w b t v) (u : Value) : Box (w.setCell ⟨b, 0, none⟩ u) b t u := by
  unfold Box at *
  simp [World.setCell, Array.getElem?_modify, h]
theorem Box.set_other {w : World} {b c : Nat} {t : TypeId} {v : Value} (h : Box w b t v) (hne : b ≠ c) (u : Value) : Box (w.setCell ⟨c, 0, none⟩ u) b t v := by
  unfold Box at *
  rw [Below.heap_setCell _ _ _ _ hne]; exact h
theorem Box.grown {w w' : World} {b base : Nat} {t e : TypeId} {v u : Value} {xs : List Value} (h : Box w b t v) (ho : Own w base e u xs) (hb : b < base) (hg : w.grownBy w' u.ownBlock) : Box w' b t v := by
  have hl := h.lt
  unfold Box at *
  rw [hg.block b hl (by
    intro hk
    have := (World.ownsRow.lt ho b hk.symm).1
    omega)]
  exact h
theorem Own.set_low {w : World} {base b : Nat} {e : TypeId} {v : Value} {xs : List Value} (h : Own w base e v xs) (hb : b < base) (u : Value) : Own (w.setCell ⟨b, 0, none⟩ u) base e v xs :=
  ownsRow_setCell_below h (by exact hb) u

/-- The three variables and what they lead to. -/
structure Three (w : World) (base b1 b2 b3 : Nat) (X1 X2 X3 : List Value) : Prop where
  at_ : ∃ v1 v2 v3, Box w b1 24 v1 ∧ Box w b2 24 v2 ∧ Box w b3 25 v3 ∧ Own w base 31 v1 X1 ∧ Own w base 31 v2 X2 ∧ Own w base 22 v3 X3 ∧ Apart v1 v2 ∧ Apart v1 v3 ∧ Apart v2 v3

def VisitPost (w : World) (base b1 b2 b3 : Nat) (X1 X2 X3 : List Value) (e : Ending) (w' : World) : Prop :=
  e = .returned (.tuple #[]) ∧ Three w' base b1 b2 b3 X1 X2 X3 ∧ Below b1 w w'

set_option maxHeartbeats 2000000 in
theorem visit (w : World) (base b1 b2 b3 : Nat) (h12 : b1 < b2) (h23 : b2 < b3) (h3 : b3 < base) (hbase : base ≤ w.heap.size) (X1 X2 X3 : List Value) (hT : Three w base b1 b2 b3 X1 X2 X3)
    (l1 : X1.length ≤ 4194304) (l2 : X2.length ≤ 4194304) (l3 : X3.length ≤ 4194304) (f wt : Int) (p : Option Addr) (n c : Nat) :
    Calls Try.prog 11 #[.int .u64 f, .int .u64 wt, .slice p n c, .pointer (some ⟨b1, 0, none⟩), .pointer (some ⟨b2, 0, none⟩), .pointer (some ⟨b3, 0, none⟩)] w
      (VisitPost w base b1 b2 b3 (X1 ++ [.int .u64 f]) (X2 ++ [.int .u64 wt]) (X3 ++ [.slice p n c])) := by
  obtain ⟨v1, v2, v3, x1, x2, x3, o1, o2, o3, a12, a13, a23⟩ := hT.at_
  have HB0 : Hid (Below b1 w w) := Below.refl _ _
  have c1 := x1.cell
  have k1 := x1.lt
  go_enter Try.func11, Try.ntmps11
  go_upto_region 1 with (first
    | (at_builtin; refine wpList_push w rfl (.tmp 9) (.tmp 11) 24 31 8 _ rfl Try.underlying24 info31 rfl (by omega) base v1 X1 _ rfl rfl o1 rfl l1 hbase ?_; intro g1 e1 w1 p1 q1 r1; have d1 := Box.cell (x1.grown o1 (by omega) q1); have fz1 := Box.frozen (x1.grown o1 (by omega) q1)))
  obtain ⟨u1, hu1⟩ : ∃ u, Value.slice (some ⟨g1, 0, none⟩) (X1.length + 1) e1 = u := ⟨_, rfl⟩
  obtain ⟨w2, hw2⟩ : ∃ w2, w1.setCell ⟨b1, 0, none⟩ (.slice (some ⟨g1, 0, none⟩) (X1.length + 1) e1) = w2 := ⟨_, rfl⟩
  have y1 : Box w2 b1 24 u1 := by rw [← hw2, ← hu1]; exact (x1.grown o1 (by omega) q1).set _
  have y2 : Box w2 b2 24 v2 := by rw [← hw2]; exact (x2.grown o1 (by omega) q1).set_other (by omega) _
  have y3 : Box w2 b3 25 v3 := by rw [← hw2]; exact (x3.grown o1 (by omega) q1).set_other (by omega) _
  have j1 : Own w2 base 31 u1 (X1 ++ [.int .u64 f]) := by rw [← hw2, ← hu1]; exact p1.set_low (by omega) _
  have j2 := Own.other (n := X1.length + 1) (cap := e1) o2 a12.symm q1 r1
  have j3 := Own.other (n := X1.length + 1) (cap := e1) o3 a13.symm q1 r1
  rw [hu1] at j2 j3
  have j2' : Own w2 base 31 v2 X2 := by rw [← hw2]; exact j2.1.set_low (by omega) _
  have j3' : Own w2 base 22 v3 X3 := by rw [← hw2]; exact j3.1.set_low (by omega) _
  have hbase2 : base ≤ w2.heap.size := by rw [← hw2]; simpa [World.setCell] using Nat.le_trans hbase q1.size
  have HB2 : Hid (Below b1 w w2) := by
    rw [← hw2]
    exact (HB0.out.grown q1 (by omega) (fun k hk => by have := (World.ownsRow.lt o1 k hk).1; omega)).setCell (p := ⟨b1, 0, none⟩) (Nat.le_refl _) _
  rw [hw2]
  have b12 := j2.2
  have b13 := j3.2
  clear hw2 x1 x2 x3 o1 o2 o3 a12 a13 p1 q1 r1 d1 fz1 c1 k1 j2 j3 HB0
  have c2 := y2.cell
  have k2 := y2.lt
  go_upto_region 2 with (first
    | (at_builtin; refine wpList_push w2 rfl (.tmp 13) (.tmp 15) 24 31 8 _ rfl Try.underlying24 info31 rfl (by omega) base v2 X2 _ rfl rfl j2' rfl l2 hbase2 ?_; intro g2 e2 w3 p2 q2 r2; have d2 := Box.cell (y2.grown j2' (by omega) q2); have fz2 := Box.frozen (y2.grown j2' (by omega) q2)))
  obtain ⟨u2, hu2⟩ : ∃ u, Value.slice (some ⟨g2, 0, none⟩) (X2.length + 1) e2 = u := ⟨_, rfl⟩
  obtain ⟨w4, hw4⟩ : ∃ w4, w3.setCell ⟨b2, 0, none⟩ (.slice (some ⟨g2, 0, none⟩) (X2.length + 1) e2) = w4 := ⟨_, rfl⟩
  have z1 : Box w4 b1 24 u1 := by rw [← hw4]; exact (y1.grown j2' (by omega) q2).set_other (by omega) _
  have z2 : Box w4 b2 24 u2 := by rw [← hw4, ← hu2]; exact (y2.grown j2' (by omega) q2).set _
  have z3 : Box w4 b3 25 v3 := by rw [← hw4]; exact (y3.grown j2' (by omega) q2).set_other (by omega) _
  have i1 := Own.other (n := X2.length + 1) (cap := e2) j1 b12.symm q2 r2
  have i3 := Own.other (n := X2.length + 1) (cap := e2) j3' a23.symm q2 r2
  rw [hu2] at i1 i3
  have i1' : Own w4 base 31 u1 (X1 ++ [.int .u64 f]) := by rw [← hw4]; exact i1.1.set_low (by omega) _
  have i2' : Own w4 base 31 u2 (X2 ++ [.int .u64 wt]) := by rw [← hw4, ← hu2]; exact p2.set_low (by omega) _
  have i3' : Own w4 base 22 v3 X3 := by rw [← hw4]; exact i3.1.set_low (by omega) _
  have hbase4 : base ≤ w4.heap.size := by rw [← hw4]; simpa [World.setCell] using Nat.le_trans hbase2 q2.size
  have HB4 : Hid (Below b1 w w4) := by
    rw [← hw4]
    exact (HB2.out.grown q2 (by omega) (fun k hk => by have := (World.ownsRow.lt j2' k hk).1; omega)).setCell (p := ⟨b2, 0, none⟩) (by simp only; omega) _
  rw [hw4]
  have d12 := i1.2
  have d23 := i3.2
  clear hw4 y1 y2 y3 j1 j2' j3' p2 q2 r2 d2 fz2 c2 k2 i1 i3 HB2 b12 a23
  have c3 := z3.cell
  have k3 := z3.lt
  go_wp2_with (first
    | (at_builtin; refine wpList_push w4 rfl (.tmp 17) (.tmp 19) 25 22 24 _ rfl Try.underlying25 info22 rfl (by omega) base v3 X3 _ rfl rfl i3' rfl l3 hbase4 ?_; intro g3 e3 w5 p3 q3 r3; have d3 := Box.cell (z3.grown i3' (by omega) q3); have fz3 := Box.frozen (z3.grown i3' (by omega) q3)))
  have HX : Hid (VisitPost w base b1 b2 b3 (X1 ++ [.int .u64 f]) (X2 ++ [.int .u64 wt]) (X3 ++ [.slice p n c]) (.returned (.tuple #[])) (w5.setCell ⟨b3, 0, none⟩ (.slice (some ⟨g3, 0, none⟩) (X3.length + 1) e3))) := by
    have m1 := Own.other (n := X3.length + 1) (cap := e3) i1' b13.symm q3 r3
    have m2 := Own.other (n := X3.length + 1) (cap := e3) i2' d23.symm q3 r3
    refine ⟨rfl, ⟨u1, u2, _, (z1.grown i3' (by omega) q3).set_other (by omega) _, (z2.grown i3' (by omega) q3).set_other (by omega) _, (z3.grown i3' (by omega) q3).set _, m1.1.set_low (by omega) _, m2.1.set_low (by omega) _, p3.set_low (by omega) _, d12, m1.2, m2.2⟩, ?_⟩
    exact (HB4.out.grown q3 (by omega) (fun k hk => by have := (World.ownsRow.lt i3' k hk).1; omega)).setCell (p := ⟨b3, 0, none⟩) (by simp only; omega) _
  clear p3 q3 r3 d3 fz3
  exact bodyPost_end (v := .tuple #[]) (by simp [results, Try.results11, go_sem]) rfl HX

end Go.Proofs.Qxb6625448a
