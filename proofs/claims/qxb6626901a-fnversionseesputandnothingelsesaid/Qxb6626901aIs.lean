/-
  Seat b6626901a: 'zzIs' (10), at the answers that are right.
-/
import Derived.Test.Qxb6626901aVersion
namespace Go.Proofs.Qxb6626901a
open Go.RowKit
set_option linter.unusedSimpArgs false
set_option linter.unusedVariables false

theorem below_drewN {B : Nat} {a w : World} (h : Below B a w) (n : Nat) : Below B a (w.drewN n) := ⟨h.os, h.tape, h.output, h.size, h.block⟩

set_option maxHeartbeats 1000000 in
theorem is_no (w : World) (key : ByteArray) (v : Int) (aw : Option Addr) (nw cw : Nat) :
    Calls Try.prog 10 #[.agg #[.string ⟨#[]⟩, .int .u64 0, .slice none 0 0], .bool false, .string key, .int .u64 v, .slice aw nw cw, .bool false] w fun e w' => e = .returned (.bool true) ∧ Hid (Below w.heap.size w w') := by
  have hn := fun (w : World) => Lib.run_eql_slice_nil (P := Try.prog) w 29 5 none 0 0 0 0 Try.underlying29
  go_enter Try.func10, Try.ntmps10
  go_wp2
  go_ret
  exact ⟨rfl, (Below.refl _ _).alloc (Nat.le_refl _) _⟩

set_option maxHeartbeats 1000000 in
theorem is_yes (w : World) (key : ByteArray) (v : Int) (x y : Value) (d : Option (List Int)) (hx : Bytes w x d) (hy : Bytes w y d) (hl : dlen d ≤ 1048576) :
    Calls Try.prog 10 #[.agg #[.string key, .int .u64 v, x], .bool true, .string key, .int .u64 v, y, .bool true] w fun e w' => e = .returned (.bool true) ∧ Hid (Below w.heap.size w w') := by
  obtain ⟨ax, cx, rfl⟩ := hx.slice
  obtain ⟨ay, cy, rfl⟩ := hy.slice
  have hb : Below w.heap.size w (w.alloc (.cells #[.string key, .int .u64 v, .slice ax (dlen d) cx] 31)) := (Below.refl _ _).alloc (Nat.le_refl _) _
  have H14 : Hid _ := same_bytes _ _ _ d (hx.below hb) (hy.below hb) hl
  clear hx hy
  go_enter Try.func10, Try.ntmps10
  go_wp2_with (go_at_call 14; refine Calls.mono H14.out ?_; rintro e w' ⟨rfl, nq, rfl⟩)
  go_ret
  exact ⟨rfl, below_drewN hb _⟩
end Go.Proofs.Qxb6626901a
