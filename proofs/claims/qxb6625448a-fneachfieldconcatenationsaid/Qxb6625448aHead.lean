/-
  Seat b6625448a: the head of both laws: the message is copied into a row of its own.
-/
import Derived.Test.Qxb6625448aSame
import Derived.Laws.CopyOwn
namespace Go.Proofs.Qxb6625448a
open Go.RowKit
set_option linter.unusedSimpArgs false
set_option linter.unusedVariables false

/-- Bytes as they came in. -/
structure Raw (w : World) (p : Option Addr) (n cap : Nat) (B : List Nat) : Prop where
  nil : p = none → B = [] ∧ cap = 0
  src : ∀ (i c : Nat), B[i]? = some c → ∃ ad, p = some ad ∧ w.cell? (ad.add i) = some (.int .u8 (c : Int)) ∧ c < 256
  len : B.length = n

theorem Raw.below {w w' : World} {p : Option Addr} {n cap : Nat} {B : List Nat} (h : Raw w p n cap B) (hb : Below w.heap.size w w') : Raw w' p n cap B :=
  ⟨h.nil, fun i c hi => by
    obtain ⟨ad, e, h1, h2⟩ := h.src i c hi
    exact ⟨ad, e, (hb.cell (World.block_lt_of_cell? w _ h1)).trans h1, h2⟩, h.len⟩

def Mine (w wx : World) (n : Nat) (B : List Nat) (v : Value) : Prop := ∃ p, v = .slice p n n ∧ Msg wx p B ∧ Below w.heap.size w wx

theorem info5 : (Try.prog.info? 5).map (fun i => (i.zero, i.size, i.bytes)) = some (some (.int .u8 0), 1, 1) := by kernel_rfl
theorem size5 : (Try.prog.info? 5).map (·.size) = some 1 := by kernel_rfl

theorem made_bytes (w : World) (n : Nat) (hn : n ≤ 4294967296) : (Instr.makeSlice 22 (.int .i64 (n : Int)) (.int .i64 (n : Int))).run Try.prog w = .ok (.slice (some ⟨w.heap.size, 0, none⟩) n n) (w.alloc (.cells (madeCells #[.int .u8 0] n) 5)) :=
  run_make_row' 22 5 (.int .u8 0) 1 Try.underlying22 info5 rfl .i64 .i64 n (by omega) (by omega) w

theorem neq_nil (p : Option Addr) (n c : Nat) (w : World) : (binOp .neq 22 (.slice p n c) (.slice none 0 0)).run Try.prog w = .ok (.bool (!p.isNone)) w := run_neq_slice_nil_any w 22 5 p n c 0 0 Try.underlying22

def byteC (c : Nat) : Value := .int .u8 (c : Int)

/-- What the copy leaves. -/
theorem mine_of {w w' : World} {n g : Nat} {B : List Nat} {L : List Value} (hn : B.length = n) (hB : ∀ c ∈ B, c < 256) (hL : L.length = n) (h : w'.heap[g]? = some (.cells (splice L 0 (B.map byteC)).toArray 5 (0, 0))) (hb : Below w.heap.size w w') :
    Mine w w' n B (.slice (some ⟨g, 0, none⟩) n n) := by
  have e : splice L 0 (B.map byteC) = B.map byteC := by
    unfold splice
    rw [List.take_zero, List.nil_append, List.drop_eq_nil_of_le (by simp; omega), List.append_nil]
  rw [e] at h
  refine ⟨_, rfl, ⟨(fun h => by cases h), fun a ha => ?_⟩, hb⟩
  cases ha
  refine ⟨g, rfl, (Array.getElem?_eq_some_iff.1 h).1, fun i c hi => ⟨?_, hB c (List.mem_of_getElem? hi)⟩⟩
  simp [World.cell?, h, hi, byteC]

end Go.Proofs.Qxb6625448a
