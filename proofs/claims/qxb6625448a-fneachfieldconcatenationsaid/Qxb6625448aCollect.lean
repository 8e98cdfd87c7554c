/-
  Seat b6625448a: 'ZZEachFieldCollect' (6).
-/
import Derived.Test.Qxb6625448aEach
import Derived.Deep.QuietTactic
import Derived.BigQuiet
namespace Go.Proofs.Qxb6625448a
open Go.RowKit
set_option linter.unusedSimpArgs false
set_option linter.unusedVariables false

def CollectPost (w : World) (p : Option Addr) (B : List Nat) (e : Ending) (w' : World) : Prop :=
  ∃ v1 v2 v3 vals, e = .returned (.tuple #[v1, v2, v3, .bool (S B 0).2]) ∧ Own w' w.heap.size 31 v1 ((S B 0).1.map fV) ∧ Own w' w.heap.size 31 v2 ((S B 0).1.map wV) ∧ Own w' w.heap.size 22 v3 vals ∧ Vals p (S B 0).1 vals ∧ Below w.heap.size w w'

theorem Own.mono {w : World} {base base' : Nat} {e : TypeId} {v : Value} {xs : List Value} (h : Own w base e v xs) (hb : base' ≤ base) : Own w base' e v xs := by
  obtain ⟨hl, h⟩ := h
  refine ⟨hl, ?_⟩
  rcases h with h | ⟨g, cap, cur, h1, h2, h3⟩
  · exact .inl h
  · exact .inr ⟨g, cap, cur, h1, Nat.le_trans hb h2, h3⟩

set_option maxHeartbeats 1000000 in
theorem collect (w : World) (p : Option Addr) (N : Nat) (B : List Nat) (hM : Msg w p B) (hN : B.length = N) (hl : N ≤ 1048576) :
    Calls Try.prog 6 #[.slice p N N] w (CollectPost w p B) := by
  have hmf : ∀ (fn : Fn) (first cap : Array Value) (w : World), (Instr.makeFunc fn first cap).run Try.prog w = .ok (.func fn first cap) w := fun _ _ _ _ => rfl
  obtain ⟨b, hb⟩ : ∃ b, w.heap.size = b := ⟨_, rfl⟩
  go_enter Try.func6, Try.ntmps6
  go_wp2_with fail
  obtain ⟨w0, hw0⟩ : ∃ w0, ((w.alloc (.cells #[.slice none 0 0] 24)).alloc (.cells #[.slice none 0 0] 24)).alloc (.cells #[.slice none 0 0] 25) = w0 := ⟨_, rfl⟩
  have hs0 : w0.heap.size = b + 3 := by rw [← hw0]; simp [hb]
  have bel0 : Below w.heap.size w w0 := by
    rw [← hw0]
    exact (((Below.refl _ _).alloc (Nat.le_refl _) _).alloc (by simp) _).alloc (by simp; omega) _
  have x1 : Box w0 b 24 (.slice none 0 0) := by
    unfold Box
    rw [← hw0, ← hb, Below.heap_alloc _ _ _ (by simp; omega), Below.heap_alloc _ _ _ (by simp)]
    exact heap_alloc_new w _
  have x2 : Box w0 (b + 1) 24 (.slice none 0 0) := by
    unfold Box
    rw [← hw0, Below.heap_alloc _ _ _ (by simp [hb])]
    have := heap_alloc_new (w.alloc (.cells #[.slice none 0 0] 24)) (.cells #[.slice none 0 0] 24)
    simpa [hb] using this
  have x3 : Box w0 (b + 1 + 1) 25 (.slice none 0 0) := by
    unfold Box
    rw [← hw0]
    have := heap_alloc_new ((w.alloc (.cells #[.slice none 0 0] 24)).alloc (.cells #[.slice none 0 0] 24)) (.cells #[.slice none 0 0] 25)
    simpa [hb] using this
  have hT : Three w0 (b + 3) b (b + 1) (b + 1 + 1) [] [] [] :=
    ⟨_, _, _, x1, x2, x3, World.ownsRow_nil _ _ _ _, World.ownsRow_nil _ _ _ _, World.ownsRow_nil _ _ _ _, .inl rfl, .inl rfl, .inl rfl⟩
  have hE := each w0 (b + 3) b (b + 1) (b + 1 + 1) (by omega) (by omega) (by omega) (by omega) hT p N B (hM.below bel0) (fun a ha => by
    obtain ⟨g, e, hl, _⟩ := hM.at_ a ha
    rw [e]; simp only; omega) hN hl
  rw [hw0]
  refine hE.mono ?_
  rintro e w1 ⟨rfl, vals, ⟨v1, v2, v3, y1, y2, y3, o1, o2, o3, _, _, _⟩, hVa, bel1⟩
  have HX : Hid (∀ w', w'.heap = w1.heap → w'.os = w1.os → w'.tape = w1.tape → w'.output = w1.output → CollectPost w p B (.returned (.tuple #[v1, v2, v3, .bool (S B 0).2])) w') := by
    intro w' e1 e2 e3 e4
    have bel : Below w.heap.size w w1 := bel0.trans (by rw [hb]; exact bel1)
    have bel' : Below w1.heap.size w1 w' := ⟨e2, e3, e4, by rw [e1]; exact Nat.le_refl _, fun k _ => by rw [e1]⟩
    exact ⟨v1, v2, v3, vals, rfl, (o1.below bel').mono (by omega), (o2.below bel').mono (by omega), (o3.below bel').mono (by omega), hVa, bel.trans (bel'.mono bel.size)⟩
  have c1 := y1.cell
  have c2 := y2.cell
  have c3 := y3.cell
  obtain ⟨r, hr⟩ : ∃ r, (S B 0).2 = r := ⟨_, rfl⟩
  rw [hr] at HX ⊢
  clear hE hT x1 x2 x3 y1 y2 y3 o1 o2 o3 hVa bel1 bel0 hw0 hM hmf
  go_wp2_with fail
  go_quiet (fail)
  go_wp2
  refine bodyPost_ret (v := .tuple #[v1, v2, v3, .bool r]) (by simp [results, Try.results6, go_sem]) rfl ?_
  exact HX.out _ rfl rfl rfl rfl

end Go.Proofs.Qxb6625448a
