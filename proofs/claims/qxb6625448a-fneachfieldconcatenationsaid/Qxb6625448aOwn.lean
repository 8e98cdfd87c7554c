/-
  Seat b6625448a: slices that grow by 'append', one element at a time, each in a block of its own.
-/
import Derived.Test.Qxb6625448aSkip
import Derived.Deep.AppendLies
namespace Go.Proofs.Qxb6625448a
open Go.RowKit
set_option linter.unusedSimpArgs false
set_option linter.unusedVariables false

/-- The value v leads to a row of its own, at or above block 'base', that holds xs. -/
def Own (w : World) (base : Nat) (e : TypeId) (v : Value) (xs : List Value) : Prop := w.ownsRow base e 1 v xs.length xs

/-- Two values that lead to no common block. -/
def Apart (u v : Value) : Prop := u.ownBlock = none ∨ u.ownBlock ≠ v.ownBlock

theorem Apart.symm {u v : Value} (h : Apart u v) : Apart v u := by
  unfold Apart at *
  cases hu : u.ownBlock with
  | none => cases hv : v.ownBlock with
    | none => exact .inl rfl
    | some k => exact .inr (by simp)
  | some k =>
    rcases h with h | h
    · rw [hu] at h; cases h
    · exact .inr (by rw [← hu]; exact fun e => h e.symm)

theorem Own.len {w : World} {base : Nat} {e : TypeId} {v : Value} {xs : List Value} (h : Own w base e v xs) : ∃ p c, v = .slice p xs.length c ∧ (∀ a, p = some a → a.off = 0 ∧ a.spot = none ∧ base ≤ a.block ∧ a.block < w.heap.size) := by
  obtain ⟨_, h⟩ := h
  rcases h with ⟨rfl, h0⟩ | ⟨g, cap, cur, rfl, hb, hg, _⟩
  · exact ⟨none, 0, by rw [h0], fun a h => by cases h⟩
  · refine ⟨some ⟨g, 0, none⟩, cap, rfl, fun a h => ?_⟩
    cases h
    exact ⟨rfl, rfl, hb, (Array.getElem?_eq_some_iff.1 hg).1⟩

theorem Own.cell {w : World} {base : Nat} {e : TypeId} {v : Value} {xs : List Value} (h : Own w base e v xs) {i : Nat} {x : Value} (hi : xs[i]? = some x) : ∃ g c, v = .slice (some ⟨g, 0, none⟩) xs.length c ∧ w.cell? ⟨g, i, none⟩ = some x ∧ base ≤ g := by
  have hl : i < xs.length := (List.getElem?_eq_some_iff.1 hi).1
  obtain ⟨g, cap, rfl, hb, _⟩ := World.ownsRow.form h (by omega)
  refine ⟨g, cap, rfl, ?_, hb⟩
  rw [World.ownsRow.cellAt h i (by omega), hi]

theorem Own.below {w w' : World} {base : Nat} {e : TypeId} {v : Value} {xs : List Value} (h : Own w base e v xs) (hb : Below w.heap.size w w') : Own w' base e v xs :=
  World.ownsRow.kept h (row := none) ⟨hb.os, hb.tape, hb.output, hb.size, fun k hk _ => hb.block k hk⟩ (by cases hv : v.ownBlock with | none => exact .inl rfl | some k => exact .inr (by simp))

/-- What another slice's append leaves of this one. -/
theorem Own.other {w w' : World} {base : Nat} {e : TypeId} {u v : Value} {xs : List Value} {g n cap : Nat} (h : Own w base e u xs) (ha : Apart u v) (hg : w.grownBy w' v.ownBlock) (hat : v.ownBlock = some g ∨ w.heap.size ≤ g) :
    Own w' base e u xs ∧ Apart u (.slice (some ⟨g, 0, none⟩) n cap) := by
  refine ⟨World.ownsRow.kept h hg ha, ?_⟩
  cases hu : u.ownBlock with
  | none => exact .inl hu
  | some k =>
    have hk := (World.ownsRow.lt h k hu).2
    refine .inr ?_
    rcases hat with hat | hat
    · rcases ha with ha | ha
      · rw [ha] at hu; cases hu
      · have : (Value.slice (some ⟨g, 0, none⟩) n cap).ownBlock = v.ownBlock := by rw [hat]; rfl
        rw [this]; exact ha
    · rw [hu]
      intro e
      simp only [Value.ownBlock, Option.some.injEq] at e
      omega

theorem info31 : (Try.prog.info? 31).map (fun i => (i.zero, i.size, i.bytes)) = some (some (.int .u64 0), 1, 8) := by kernel_rfl
theorem info3 : (Try.prog.info? 3).map (fun i => (i.zero, i.size, i.bytes)) = some (some (.int .i64 0), 1, 8) := by kernel_rfl
theorem info22 : (Try.prog.info? 22).map (fun i => (i.zero, i.size, i.bytes)) = some (some (.slice none 0 0), 1, 24) := by kernel_rfl

/-- 'append(v, x)' of one element of one cell. -/
theorem wpList_push (w0 : World) {ops : Array Oper} {rest : List Oper} {o : Oper} {a : Act} {Q : Exit → Act → World → Prop}
    (hg : o.guard = none) (s x : Operand) (t e bytes : Nat) (z : Value) (hop : o.op = Op.call { callee := Callee.builtin Builtin.append, args := #[s, x], argTypes := #[t, t] })
    (ht : Try.prog.underlying t = some (.slice e)) (hinfo : (Try.prog.info? e).map (fun i => (i.zero, i.size, i.bytes)) = some (some z, 1, bytes)) (hz1 : z.cells.size = 1) (hby : bytes ≤ 24)
    (base : Nat) (v : Value) (xs : List Value) (u : Value) (hs : a.eval s = v) (hx : a.eval x = .slice (some ⟨w0.heap.size, 0, none⟩) 1 1)
    (hown : Own w0 base e v xs) (hu : u.oneCell' = true) (hn : xs.length ≤ 4194304) (hbase : base ≤ w0.heap.size)
    (hK : ∀ g cap w', Own w' base e (.slice (some ⟨g, 0, none⟩) (xs.length + 1) cap) (xs ++ [u]) → w0.grownBy w' v.ownBlock → (v.ownBlock = some g ∨ w0.heap.size ≤ g) → wpList Try.prog ops Q rest (a.put o.dst (.slice (some ⟨g, 0, none⟩) (xs.length + 1) cap)) w') :
    wpList Try.prog ops Q (o :: rest) a (w0.alloc (.cells #[u] e)) := by
  obtain ⟨i0, hi, hz0, hzz, hz2⟩ := info_parts hinfo
  refine wpList_append_lies _ hg s x t hop base e i0 z 1 bytes ht hi hz0 hzz hz2 hz1 (by omega) v xs.length xs hs (World.ownsRow.alloc hown _) ⟨w0.heap.size, 0, none⟩ 1 1 [u] hx rfl
    (World.news_of_block (cs := #[u]) (t := e) (fr := (0, 0)) (heap_alloc_new w0 _)) (by intro y hy; simp at hy; subst hy; exact hu) (by omega) (by unfold maxLen; omega) ?_ (by simp; omega) _ rfl ?_
  · have : (xs.length + 1) * bytes ≤ (xs.length + 1) * 24 := Nat.mul_le_mul_left _ hby
    omega
  · intro g cap w' h1 h2 h3 _
    refine hK g cap w' ?_ ((World.grownBy_alloc w0 _ _).trans h2) ?_
    · unfold Own
      rw [List.length_append]
      exact h1
    · rcases h3 with h3 | h3
      · exact .inl h3
      · exact .inr (by rw [h3]; simp)

end Go.Proofs.Qxb6625448a
