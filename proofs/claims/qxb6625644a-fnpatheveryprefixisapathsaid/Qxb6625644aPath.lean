/-
  Seat b6625644a: '(*search).path' (9) and 'ZZPath' (7).
-/
import Derived.Test.Qxb6625644aBase
import Derived.Ground.NamesProg
import Derived.Shelf.Lay
import Derived.Shelf.Slices.Reverse
import Derived.Lib.OwnBridge
namespace Go.Proofs
open Go.Shelf
shelf_lay Lays.n112 Nm 112 at Try as Try.laysReverse
end Go.Proofs

namespace Go.Proofs.Qxb6625644a
open Go.RowKit Go.Shelf
set_option linter.unusedSimpArgs false
set_option linter.unusedVariables false

/-- The value v leads to a row of its own, at or above block 'base', that holds xs. -/
def Own (w : World) (base : Nat) (e : TypeId) (v : Value) (xs : List Value) : Prop := w.ownsRow base e 1 v xs.length xs

theorem Own.below {w w' : World} {base : Nat} {e : TypeId} {v : Value} {xs : List Value} (h : Own w base e v xs) (hb : Below w.heap.size w w') : Own w' base e v xs :=
  World.ownsRow.kept h (row := none) ⟨hb.os, hb.tape, hb.output, hb.size, fun k hk _ => hb.block k hk⟩ (by cases hv : v.ownBlock with | none => exact .inl rfl | some k => exact .inr (by simp))

theorem Own.cell {w : World} {base : Nat} {e : TypeId} {v : Value} {xs : List Value} (h : Own w base e v xs) {i : Nat} {x : Value} (hi : xs[i]? = some x) : ∃ g c, v = .slice (some ⟨g, 0, none⟩) xs.length c ∧ w.cell? ⟨g, i, none⟩ = some x ∧ base ≤ g := by
  have hl : i < xs.length := (List.getElem?_eq_some_iff.1 hi).1
  obtain ⟨g, cap, rfl, hb, _⟩ := World.ownsRow.form h (by omega)
  refine ⟨g, cap, rfl, ?_, hb⟩
  rw [World.ownsRow.cellAt h i (by omega), hi]

theorem Own.mono {w : World} {base base' : Nat} {e : TypeId} {v : Value} {xs : List Value} (h : Own w base e v xs) (hb : base' ≤ base) : Own w base' e v xs := by
  obtain ⟨hl, h⟩ := h
  refine ⟨hl, ?_⟩
  rcases h with h | ⟨g, cap, cur, h1, h2, h3⟩
  · exact .inl h
  · exact .inr ⟨g, cap, cur, h1, Nat.le_trans hb h2, h3⟩

theorem info3 : (Try.prog.info? 3).map (fun i => (i.zero, i.size, i.bytes)) = some (some (.int .i64 0), 1, 8) := by kernel_rfl

/-- 'append(v, x)' of one element of one cell. -/
theorem wpList_push (w0 : World) {ops : Array Oper} {rest : List Oper} {o : Oper} {a : Act} {Q : Exit → Act → World → Prop}
    (hg : o.guard = none) (s x : Operand) (t e bytes : Nat) (z : Value) (hop : o.op = Op.call { callee := Callee.builtin Builtin.append, args := #[s, x], argTypes := #[t, t] })
    (ht : Try.prog.underlying t = some (.slice e)) (hinfo : (Try.prog.info? e).map (fun i => (i.zero, i.size, i.bytes)) = some (some z, 1, bytes)) (hz1 : z.cells.size = 1) (hby : bytes ≤ 24)
    (base : Nat) (v : Value) (xs : List Value) (u : Value) (hs : a.eval s = v) (hx : a.eval x = .slice (some ⟨w0.heap.size, 0, none⟩) 1 1)
    (hown : Own w0 base e v xs) (hu : u.oneCell' = true) (hn : xs.length ≤ 4194304) (hbase : base ≤ w0.heap.size)
    (hK : ∀ g cap w', Own w' base e (.slice (some ⟨g, 0, none⟩) (xs.length + 1) cap) (xs ++ [u]) → w0.grownBy w' v.ownBlock → (v.ownBlock = some g ∨ w0.heap.size ≤ g) → wpList Try.prog ops Q rest (a.put o.dst (.slice (some ⟨g, 0, none⟩) (xs.length + 1) cap)) w') :
    wpList Try.prog ops Q (o :: rest) a (w0.alloc (.cells #[u] e)) := by
  obtain ⟨i0, hi, hz0, hzz, hz2⟩ := info_parts hinfo
  refine wpList_append_lies _ hg s x t hop base e i0 z 1 bytes ht hi hz0 hzz hz2 hz1 (by omega) v xs.length xs hs (World.ownsRow.alloc hown _) ⟨w0.heap.size, 0, none⟩ 1 1 [u] hx rfl
    (World.news_of_block (cs := #[u]) (t := e) (fr := (0, 0)) (heap_alloc_new w0 _)) (by intro y hy; simp at hy; subst hy; exact hu) (by omega) (by unfold maxLen; omega) ?_ (by simp; omega) _ rfl ?_
  · have : (xs.length + 1) * bytes ≤ (xs.length + 1) * 24 := Nat.mul_le_mul_left _ hby
    omega
  · intro g cap w' h1 h2 h3 _
    refine hK g cap w' ?_ ((World.grownBy_alloc w0 _ _).trans h2) ?_
    · unfold Own
      rw [List.length_append]
      exact h1
    · rcases h3 with h3 | h3
      · exact .inl h3
      · exact .inr (by rw [h3]; simp)

/-- Block g holds the int32s Z. -/
def Has (w : World) (g : Nat) (Z : List Int) : Prop := ∀ (i : Nat) (c : Int), Z[i]? = some c → w.cell? ⟨g, i, none⟩ = some (.int .i32 c) ∧ -2147483648 ≤ c ∧ c ≤ 2147483647

theorem Has.below {w w' : World} {g : Nat} {Z : List Int} (h : Has w g Z) (hb : Below w.heap.size w w') : Has w' g Z :=
  fun i c hi => by
    obtain ⟨h1, h2⟩ := h i c hi
    exact ⟨(hb.cell (World.block_lt_of_cell? w _ h1)).trans h1, h2⟩

def I (x : Int) : Value := .int .i64 x

def lenOf : Value → Nat
  | .slice _ n _ => n
  | _ => 0

theorem Own.lenOf {w : World} {base : Nat} {e : TypeId} {v : Value} {xs : List Value} (h : Own w base e v xs) : lenOf v = xs.length := by
  obtain ⟨_, h⟩ := h
  rcases h with ⟨rfl, h0⟩ | ⟨g, cap, cur, rfl, _⟩
  · exact h0.symm
  · rfl

/-- What a path leaves: the chain, turned round, in a row of its own. -/
def PathPost (w : World) (L : List Int) (e : Ending) (w' : World) : Prop :=
  ∃ v, e = .returned v ∧ Own w' w.heap.size 3 v (L.reverse.map I) ∧ Below w.heap.size w w'

set_option maxHeartbeats 2000000 in
set_option maxRecDepth 8000 in
theorem path (w : World) (b g n cap : Nat) (Z : List Int) (u : Int) (L : List Int) (hb : w.cell? ⟨b, 2, none⟩ = some (.slice (some ⟨g, 0, none⟩) n cap)) (hZ : Has w g Z) (hl : Z.length = n) (hn : n ≤ 65536) (hu : 0 ≤ u) (hR : Rt Z u L) (hL : L.length ≤ n) :
    Calls Try.prog 9 #[.pointer (some ⟨b, 0, none⟩), .int .i64 u] w (PathPost w L) := by
  obtain ⟨L0, hL0, hu1, hR0⟩ := hR.pos hu
  have e3 : IntKind.i32.wrap u = u := by rw [IntKind.wrap_i32]; omega
  clear hL0 hR0 L0
  go_enter Try.func9, Try.ntmps9
  go_wp2
  go_loopw [5, 6] (fun q v wr => ∃ (x : Int) (L1 L2 : List Int), v = .int .i32 x ∧ -2147483648 ≤ x ∧ x ≤ 2147483647 ∧ Hid (L = L1 ++ L2 ∧ Rt Z x L2 ∧ Own wr w.heap.size 3 q (L1.map I) ∧ Below w.heap.size w wr)) (fun q _ _ => n - lenOf q)
  case atStart => exact ⟨u, [], L, rfl, by omega, by omega, rfl, hR, World.ownsRow_nil _ _ _ _, Below.refl _ _⟩
  case round =>
    obtain ⟨x, L1, L2, rfl, hx1, hx2, HX⟩ := hrel
    by_cases hx0 : 0 ≤ x
    · obtain ⟨hLL, hR2, hO, hBe⟩ := HX.out
      obtain ⟨L3, rfl, hxZ, hR3⟩ := hR2.pos hx0
      obtain ⟨j, rfl⟩ : ∃ j : Nat, x = (j : Int) := ⟨x.toNat, by omega⟩
      have hj : j < Z.length := by omega
      obtain ⟨hc, hb1, hb2⟩ := hZ j _ (List.getElem?_eq_getElem hj)
      have e : Z.getD ((j : Int)).toNat 0 = Z[j] := by simp [List.getD, hj]
      rw [e] at hR3
      obtain ⟨c, hc'⟩ : ∃ c, Z[j] = c := ⟨_, rfl⟩
      rw [hc'] at hc hb1 hb2 hR3
      have hn1 : (L1.map I).length ≤ 4194304 := by
        have := congrArg List.length hLL
        simp at this ⊢
        omega
      have hl1 : L1.length + 1 ≤ n := by
        have := congrArg List.length hLL
        simp at this
        omega
      obtain ⟨X, hX⟩ : ∃ X, L1.map I = X := ⟨_, rfl⟩
      have hXl : X.length = L1.length := by rw [← hX]; simp
      rw [hX] at hO hn1
      have HH : Hid (_ ∧ _ ∧ _ ∧ _ ∧ _) := ⟨hX, hLL, hR3, hXl, hl1⟩
      have hjn : (j : Int) < (n : Int) := by omega
      clear hc' e HX hX hLL hR3 hXl hl1 hR hL hZ
      go_wp2_with (at_builtin; refine wpList_push wr rfl (.tmp 18) (.tmp 21) 24 3 8 _ rfl Try.underlying24 info3 rfl (by omega) w.heap.size u5 X _ rfl rfl hO rfl hn1 hBe.size ?_; intro g1 c1 w1 p1 q1 r1; have hB1 := Below.grown hBe q1 hBe.size (fun k hk => (World.ownsRow.lt hO k hk).1); have d1 := (hB1.cell (World.block_lt_of_cell? w _ hb)).trans hb; have d2 := (hB1.cell (World.block_lt_of_cell? w _ hc)).trans hc)
      go_roundw
      case rel =>
        obtain ⟨hX, hLL, hR3, hXl, hl1⟩ := HH.out
        refine ⟨c, L1 ++ [(j : Int)], L3, rfl, hb1, hb2, by simp [hLL], hR3, ?_, hB1⟩
        have e : (L1 ++ [(j : Int)]).map I = X ++ [.int .i64 (j : Int)] := by rw [List.map_append, hX]; rfl
        rw [e]
        exact p1
      case measure =>
        obtain ⟨hX, hLL, hR3, hXl, hl1⟩ := HH.out
        rw [hO.lenOf]
        simp only [lenOf]
        omega
    · obtain ⟨hLL, hR2, hO, hBe⟩ := HX.out
      obtain rfl := hR2.neg (by omega)
      rw [List.append_nil] at hLL
      subst hLL
      obtain ⟨L0, hL0, _⟩ := hR.pos hu
      have hp : 0 < L.length := by rw [hL0]; simp
      obtain ⟨m, hm⟩ : ∃ m, L.length = m := ⟨_, rfl⟩
      have hO' : wr.ownsRow w.heap.size 3 1 u5 m (L.map I) := by have := hO; unfold Own at this; rwa [List.length_map, hm] at this
      obtain ⟨g1, c1, rfl, hg1, _⟩ := hO'.form (by omega)
      obtain ⟨g2, c2, h2, _, _, _, _, _, hH⟩ := Lib.holds_of_ownsRow (enc := Value.int .i64) (zs := L) hO' (by simp)
      simp only [Value.slice.injEq, Option.some.injEq, Addr.mk.injEq, and_true, true_and] at h2
      obtain ⟨rfl, rfl⟩ := h2
      have hrev := Any.slices_Reverse_int Try.laysReverse g1 0 c1 L wr hH (by omega)
      rw [hm] at hrev
      have HX2 : Hid (_ ∧ _) := ⟨hO', hBe⟩
      clear HX hO hBe hO' hH hR2 hL0 hR hZ
      go_wp2_with (go_at_call 10; refine hrev.mono ?_; rintro e w2 ⟨rfl, q, rfl⟩)
      go_ret
      have hy : L.reverse.length = m := by simpa using hm
      have h1 := Lib.ownsRow_putRow (q := q) (ys := L.reverse) HX2.out.1 hy (Nat.le_refl m)
      rw [List.take_of_length_le (Nat.le_of_eq hy)] at h1
      refine ⟨_, rfl, ?_, Lib.below_putRow HX2.out.2 hg1⟩
      unfold Own
      rw [List.length_map, hy]
      exact h1

set_option maxHeartbeats 1000000 in
theorem zzPath (w : World) (g n cap : Nat) (Z : List Int) (u : Int) (L : List Int) (hZ : Has w g Z) (hl : Z.length = n) (hn : n ≤ 65536) (hu : 0 ≤ u) (hR : Rt Z u L) (hL : L.length ≤ n) :
    Calls Try.prog 7 #[.slice (some ⟨g, 0, none⟩) n cap, .int .i64 u] w (PathPost w L) := by
  go_enter Try.func7, Try.ntmps7
  go_wp2_with fail
  have hb0 := heap_alloc_new w (.cells #[.int .i32 0, .slice none 0 0, .slice (some ⟨g, 0, none⟩) n cap, .slice none 0 0, .slice none 0 0, .bool false, .slice none 0 0, .slice none 0 0] 29)
  have bel : Below w.heap.size w (w.alloc (.cells #[.int .i32 0, .slice none 0 0, .slice (some ⟨g, 0, none⟩) n cap, .slice none 0 0, .slice none 0 0, .bool false, .slice none 0 0, .slice none 0 0] 29)) := (Below.refl _ _).alloc (Nat.le_refl _) _
  obtain ⟨w1, hw1⟩ : ∃ w1, w.alloc (.cells #[.int .i32 0, .slice none 0 0, .slice (some ⟨g, 0, none⟩) n cap, .slice none 0 0, .slice none 0 0, .bool false, .slice none 0 0, .slice none 0 0] 29) = w1 := ⟨_, rfl⟩
  rw [hw1] at hb0 bel ⊢
  have hc : w1.cell? ⟨w.heap.size, 2, none⟩ = some (.slice (some ⟨g, 0, none⟩) n cap) := by simp [World.cell?, hb0]
  refine (path w1 w.heap.size g n cap Z u L hc (hZ.below bel) hl hn hu hR hL).mono ?_
  rintro e w2 ⟨v, rfl, hO, hB⟩
  have HX : Hid (PathPost w L (.returned v) w2) := ⟨v, rfl, hO.mono bel.size, bel.trans (hB.mono bel.size)⟩
  clear hb0 bel hw1 hc hZ hR hO hB
  go_wp2
  go_ret
  exact HX.out

end Go.Proofs.Qxb6625644a
