/-
  Seat b6626901a: 'ZZnewStore' (15).
-/
import Derived.Test.Qxb6626901aPut
namespace Go.Proofs.Qxb6626901a
open Go.RowKit
set_option linter.unusedSimpArgs false
set_option linter.unusedVariables false

/-- The cells of a new store: all zero but for the map of keys. -/
def digestCells : Array Value := #[.int .u32 0, .int .u32 0] ++ Array.replicate 256 (.int .u64 0) ++ #[.int .i64 0]
def storeCells (b : Nat) : Array Value := #[.int .i32 0, .int .u32 0, .int .u32 0, .int .u32 0, .int .i32 0, .int .i32 0, .map (some b), .int .i64 0] ++ digestCells ++ digestCells ++ #[.int .i64 0]

theorem build60 (b : Nat) (w : World) : (Instr.build 60 #[(1, .map (some b))]).run Try.prog w = .ok (.agg (storeCells b)) w := by kernel_rfl
theorem box60 (b : Nat) (w : World) : (Instr.box 60 (.agg (storeCells b))).run Try.prog w = .ok (.pointer (some ⟨w.heap.size, 0, none⟩)) (w.alloc (.cells (storeCells b) 60)) := by kernel_rfl

theorem wpList_build60 (w : World) {ops : Array Oper} {rest : List Oper} {o : Oper} {a : Act} {Q : Exit → Act → World → Prop}
    (hg : o.guard = none) (x : Operand) (hop : o.op = Op.build 60 #[(1, x)]) (b : Nat) (hx : a.eval x = .map (some b))
    (hK : wpList Try.prog ops Q rest (a.put o.dst (.agg (storeCells b))) w) : wpList Try.prog ops Q (o :: rest) a w := by
  refine wpList_plain hg fun K hK' => ?_
  have hrun := build60 b w
  unfold Oper.wp
  simp [execOp, hop, hx, hrun, Result.andThen]
  exact hK' _ _ hK

theorem wpList_box60 (w : World) {ops : Array Oper} {rest : List Oper} {o : Oper} {a : Act} {Q : Exit → Act → World → Prop}
    (hg : o.guard = none) (x : Operand) (hop : o.op = Op.box 60 x) (b : Nat) (hx : a.eval x = .agg (storeCells b))
    (hK : wpList Try.prog ops Q rest (a.put o.dst (.pointer (some ⟨w.heap.size, 0, none⟩))) (w.alloc (.cells (storeCells b) 60))) : wpList Try.prog ops Q (o :: rest) a w := by
  refine wpList_plain hg fun K hK' => ?_
  have hrun := box60 b w
  unfold Oper.wp
  simp only [execOp, hop, hx, hrun, Result.andThen]
  exact hK' _ _ hK

theorem walk15 (w : World) : Calls Try.prog 15 #[] w fun e w' => e = .returned (.pointer (some ⟨w.heap.size + 1, 0, none⟩)) ∧ w' = (w.alloc (.map #[] 0)).alloc (.cells (storeCells w.heap.size) 60) := by
  have hmm := @run_makeMap Try.prog
  go_enter Try.func15, Try.ntmps15
  go_wp2_with (first | refine wpList_build60 _ rfl _ rfl _ rfl ?_ | refine wpList_box60 _ rfl _ rfl _ rfl ?_)
  go_ret
  exact ⟨rfl, rfl⟩

end Go.Proofs.Qxb6626901a
