/-
  Seat b6625644a: rows of int32 that came in; rows that grow by 'append'; the bound on length (5, 8), 'zzRooted' (6).
-/
import Derived.Test.Qxb6625644aRows
import Derived.Test.Qxb6625644aPlain
import Derived.WalkKit
import Derived.WalkSpells
import Derived.WalkLawsBesides
import Derived.OwnWalk
import Derived.Below
import Derived.Deep.OwnRows
import Derived.Deep.AppendLies
namespace Go.Proofs.Qxb6625644a
open Go.RowKit
set_option linter.unusedSimpArgs false
set_option linter.unusedVariables false

/-- The int32s Z, as they came in. -/
structure Raw (w : World) (p : Option Addr) (n : Nat) (Z : List Int) : Prop where
  src : ∀ (i : Nat) (c : Int), Z[i]? = some c → ∃ ad, p = some ad ∧ w.cell? (ad.add i) = some (.int .i32 c) ∧ -2147483648 ≤ c ∧ c ≤ 2147483647
  len : Z.length = n

theorem Raw.below {w w' : World} {p : Option Addr} {n : Nat} {Z : List Int} (h : Raw w p n Z) (hb : Below w.heap.size w w') : Raw w' p n Z :=
  ⟨fun i c hi => by
    obtain ⟨ad, e, h1, h2⟩ := h.src i c hi
    exact ⟨ad, e, (hb.cell (World.block_lt_of_cell? w _ h1)).trans h1, h2⟩, h.len⟩

def BoolPost (w : World) (e : Ending) (w' : World) : Prop := (∃ b, e = .returned (.bool b)) ∧ w' = w

theorem zzBytes5 (w : World) (p : Option Addr) (n cap : Nat) (u : Int) (hn : n ≤ 9223372036854775807) : Calls Try.prog 5 #[.slice p n cap, .int .i64 u] w (BoolPost w) := by
  by_cases h1 : (1048576 : Int) < (n : Int)
  · go_enter Try.func5, Try.ntmps5
    go_wp2
    go_ret
    exact ⟨⟨_, rfl⟩, rfl⟩
  · go_enter Try.func5, Try.ntmps5
    go_wp2
    go_ret
    exact ⟨⟨_, rfl⟩, rfl⟩

theorem zzBytes8 (w : World) (p : Option Addr) (n cap : Nat) (u : Int) (hn : n ≤ 9223372036854775807) : Calls Try.prog 8 #[.slice p n cap, .int .i64 u] w (BoolPost w) := by
  by_cases h1 : (1048576 : Int) < (n : Int)
  · go_enter Try.func8, Try.ntmps8
    go_wp2
    go_ret
    exact ⟨⟨_, rfl⟩, rfl⟩
  · go_enter Try.func8, Try.ntmps8
    go_wp2
    go_ret
    exact ⟨⟨_, rfl⟩, rfl⟩

/-- 'zzRooted' says true only where the chain is rooted and no longer than the row. -/
def RootPost (w : World) (n : Nat) (Z : List Int) (u : Int) (e : Ending) (w' : World) : Prop :=
  w' = w ∧ (e = .returned (.bool false) ∨ (e = .returned (.bool true) ∧ ∃ L, Rt Z u L ∧ L.length ≤ n))

set_option maxHeartbeats 1000000 in
set_option maxRecDepth 8000 in
theorem rooted (w : World) (p : Option Addr) (n cap : Nat) (Z : List Int) (hR : Raw w p n Z) (u : Int) (h0 : 0 ≤ u) (h1 : u < (n : Int)) (hn : n ≤ 65536) :
    Calls Try.prog 6 #[.slice p n cap, .int .i64 u] w (RootPost w n Z u) := by
  have e0 : ¬ u < 0 := by omega
  have e1 : ¬ (n : Int) ≤ u := by omega
  have e2 : ¬ (65536 : Int) < (n : Int) := by omega
  have e3 : IntKind.i32.wrap u = u := by rw [IntKind.wrap_i32]; omega
  go_enter Try.func6, Try.ntmps6
  go_wp2
  go_loopw [5, 6] (fun v i wr => ∃ (k : Nat) (x : Int) (L : List Int), k ≤ n + 1 ∧ i = .int .i64 (k : Int) ∧ v = .int .i32 x ∧ wr = w ∧ -2147483648 ≤ x ∧ x ≤ 2147483647 ∧ Hid (L.length = k ∧ Way Z u L x)) (fun _ i _ => n + 1 - (intOf i).toNat)
  case atStart => exact ⟨0, u, [], by omega, rfl, rfl, rfl, by omega, by omega, rfl, Way.refl Z u⟩
  case round =>
    obtain ⟨k, x, L, hk, rfl, rfl, rfl, hx1, hx2, HL⟩ := hrel
    by_cases hkn : k ≤ n
    · have hkn' : (k : Int) ≤ (n : Int) := by omega
      by_cases hx0 : x < 0
      · go_wp2
        go_ret
        refine ⟨rfl, .inr ⟨rfl, L, ?_, by rw [HL.out.1]; omega⟩⟩
        have := HL.out.2 [] hx0
        simpa using this
      · by_cases hxn : (n : Int) ≤ x
        · go_wp2
          go_ret
          exact ⟨rfl, .inl rfl⟩
        · obtain ⟨j, rfl⟩ : ∃ j : Nat, x = (j : Int) := ⟨x.toNat, by omega⟩
          have hj : j < Z.length := by rw [hR.len]; omega
          obtain ⟨ad, rfl, hc, hb1, hb2⟩ := hR.src j _ (List.getElem?_eq_getElem hj)
          have HW : Hid (Way Z u (L ++ [(j : Int)]) Z[j]) := by
            have := HL.out.2.step (by omega) (by omega : (j : Int) < Z.length)
            have e : Z.getD ((j : Int)).toNat 0 = Z[j] := by simp [List.getD, hj]
            rw [e] at this
            exact this
          obtain ⟨c, hc'⟩ : ∃ c, Z[j] = c := ⟨_, rfl⟩
          rw [hc'] at hc hb1 hb2 HW
          clear hc'
          go_wp2
          go_roundw
          case rel => exact ⟨k + 1, c, L ++ [(j : Int)], by omega, by go_num, by trivial, by trivial, hb1, hb2, by simp [HL.out.1], HW.out⟩
          case measure => simp [intOf]; omega
    · have hkn' : ¬ (k : Int) ≤ (n : Int) := by omega
      go_wp2
      go_ret
      exact ⟨rfl, .inl rfl⟩

end Go.Proofs.Qxb6625644a
