/-
  Seat b6627195aD: 'make([][4]byte, n)' and 'copy(zzc, a)': the kit's laws of copy ask for elements of one cell; here each has four.
-/
import Derived.Test.Qxb6627195aDoorFrom
import Derived.Laws.CopyRow
import Derived.Laws.CopyOwn
namespace Go.Proofs.Qxb6627195aDoor
open Go.RowKit
set_option linter.unusedSimpArgs false
set_option linter.unusedVariables false

theorem made_quads (w : World) (n : Nat) (hn : n ≤ 4294967296) : (Instr.makeSlice 22 (.int .i64 (n : Int)) (.int .i64 (n : Int))).run Tryd.prog w = .ok (.slice (some ⟨w.heap.size, 0, none⟩) n n) (w.alloc (.cells (madeCells #[.int .u8 0, .int .u8 0, .int .u8 0, .int .u8 0] (n * 4)) 24)) := by
  obtain ⟨i0, hi, hz0, hz1, hz2⟩ := info_parts info24
  have := run_make (P := Tryd.prog) w 22 24 i0 _ Tryd.underlying22 hi hz0 .i64 .i64 n n (by omega) (by omega) (by rw [hz2]; omega) (by omega)
  rw [this, hz1]
  rfl

theorem run_copy4 (w : World) (ty : TypeId) (g n cap : Nat) (a : Option Addr) (sCap : Nat) (cur : Array Value) (cs : List Value)
    (hg : w.heap[g]? = some (.cells cur 24 (0, 0))) (hcur : cur.size = n * 4) (hcs : cs.length = n * 4)
    (hsrc : ∀ j v, cs[j]? = some v → ∃ ad, a = some ad ∧ w.cell? (ad.add j) = some v) (ha : a = none → n = 0) (h1 : ∀ v ∈ cs, v.oneCell' = true) :
    (Builtin.copy_ #[22, 22] ty #[.slice (some ⟨g, 0, none⟩) n cap, .slice a n sCap]).run Tryd.prog w = .ok (goInt n) (w.setRow g cs.toArray) := by
  obtain ⟨i0, hi, hz0, hz1, hz2⟩ := info_parts info24
  cases a with
  | none =>
    obtain rfl := ha rfl
    obtain rfl : cs = [] := List.eq_nil_of_length_eq_zero (by omega)
    have hc : cur = #[] := Array.eq_empty_of_size_eq_zero (by omega)
    subst hc
    rw [setRow_self w g #[] 24 (0, 0) hg]
    simp [Builtin.copy_, run_underlying Tryd.underlying22, Builtin.lenOf, Builtin.firstCells, sizeOf, typeInfo, hi, hz1, storeCells]
  | some ad =>
    have hl := run_loadCells_list (P := Tryd.prog) w ad cs (fun j v h => by obtain ⟨ad', e, hh⟩ := hsrc j v h; cases e; exact hh)
    have hst := run_storeCells_at Tryd.prog g 0 24 cs 0 cur w hg (by omega) h1
    have e : (cur.toList.take (0 + 0) ++ cs ++ cur.toList.drop (0 + 0 + cs.length)).toArray = cs.toArray := by
      rw [List.drop_eq_nil_of_le (by simp; omega)]; simp
    rw [e] at hst
    rw [hcs] at hl
    simp [Builtin.copy_, run_underlying Tryd.underlying22, Builtin.lenOf, Builtin.firstCells, sizeOf, typeInfo, hi, hz1, hl, hst]

/-- 'copy' into a row just made. -/
theorem wpList_copy4 (w : World) {ops : Array Oper} {rest : List Oper} {o : Oper} {a : Act} {Q : Exit → Act → World → Prop}
    (hg : o.guard = none) (d s : Operand) (hop : o.op = Op.call { callee := Callee.builtin Builtin.copy, args := #[d, s], argTypes := #[22, 22] })
    (g n cap : Nat) (p : Option Addr) (sCap : Nat) (hd : a.eval d = .slice (some ⟨g, 0, none⟩) n cap) (hs : a.eval s = .slice p n sCap) (L : List Q4) (hL : L.length = n) (f : Nat → Value)
    (hr : w.rowIs g 24 (n * 4) f) (hsrc : ∀ j, j < n * 4 → ∃ ad, p = some ad ∧ w.cell? (ad.add j) = some (qcell L j)) (hp : p = none → n = 0)
    (hK : ∀ w', w'.rowIs g 24 (n * 4) (qcell L) → w.grownBy w' (some g) → wpList Tryd.prog ops Q rest (a.put o.dst (goInt n)) w') :
    wpList Tryd.prog ops Q (o :: rest) a w := by
  obtain ⟨cur, h1, h2, h3⟩ := hr
  have hrun := run_copy4 w o.type g n cap p sCap cur ((List.range (n * 4)).map (qcell L)) h1 h2 (by simp) (by
    intro j v hj
    have hjl : j < n * 4 := by have := (List.getElem?_eq_some_iff.1 hj).1; simpa using this
    obtain ⟨ad, e, hc⟩ := hsrc j hjl
    refine ⟨ad, e, ?_⟩
    rw [hc]
    rw [List.getElem?_map, List.getElem?_range hjl] at hj
    exact hj) hp (by
    intro v hv
    simp only [List.mem_map] at hv
    obtain ⟨j, _, rfl⟩ := hv
    rfl)
  refine wpList_plain hg fun K hK' => ?_
  unfold Oper.wp
  simp [execOp, hop, resolve, invoke, builtin, hd, hs, hrun, Result.andThen]
  refine hK' _ _ (hK _ ⟨_, setRow_heap w g _ _ 24 _ h1, by simp, fun i hi => ?_⟩ ⟨rfl, rfl, rfl, by simp [World.setRow], fun k hk hne => setRow_other w g k _ (by rintro rfl; exact hne rfl)⟩)
  simp [hi]

end Go.Proofs.Qxb6627195aDoor
