/-
  Seat b6625448a: 'zzOtlpB1SameBytes' (8) at two slices that hold the same; 'zzBytes' (5, 9).
-/
import Derived.Test.Qxb6625448aCollect
namespace Go.Proofs.Qxb6625448a
open Go.RowKit
set_option linter.unusedSimpArgs false
set_option linter.unusedVariables false

/-- Two slices of n bytes that hold the same. -/
def Alike (w : World) (ax ay : Addr) (n : Nat) : Prop :=
  0 < n → ∃ g s g' s', ax = ⟨g, s, none⟩ ∧ ay = ⟨g', s', none⟩ ∧ ∀ i, i < n → ∃ z : Nat, w.cell? ⟨g, s + i, none⟩ = some (.int .u8 (z : Int)) ∧ w.cell? ⟨g', s' + i, none⟩ = some (.int .u8 (z : Int))

def TruePost (w : World) (e : Ending) (w' : World) : Prop := e = .returned (.bool true) ∧ Below w.heap.size w w'

theorem below_drewN (w : World) (n : Nat) : Below w.heap.size w (w.drewN n) := ⟨rfl, rfl, rfl, Nat.le_refl _, fun _ _ => rfl⟩

set_option maxHeartbeats 1000000 in
theorem same (w : World) (ax ay : Addr) (n c c' : Nat) (hn : n ≤ 4194304) (h : Alike w ax ay n) : Calls Try.prog 8 #[.slice (some ax) n c, .slice (some ay) n c'] w (TruePost w) := by
  go_enter Try.func8, Try.ntmps8
  go_wp2
  go_loopw [5] (fun i wr => ∃ k m : Nat, k ≤ n ∧ i = .int .i64 k ∧ wr = w.drewN m) (fun i _ => n - (intOf i).toNat)
  case atStart => exact ⟨0, 0, Nat.zero_le _, rfl, rfl⟩
  case round =>
    obtain ⟨k, m, hk, rfl, rfl⟩ := hrel
    by_cases hlt : k < n
    · obtain ⟨g, s, g', s', rfl, rfl, hc⟩ := h (by omega)
      obtain ⟨z, c1, c2⟩ := hc k hlt
      have hlt' : (k : Int) < (n : Int) := by omega
      clear hc h
      go_wp2
      go_quiet (fail)
      go_wp2
      go_roundw
      case rel => exact ⟨k + 1, _, by omega, by go_num, rfl⟩
      case measure => simp [intOf]; omega
    · go_wp2
      go_ret
      exact ⟨rfl, below_drewN w m⟩

def BoolPost (w : World) (e : Ending) (w' : World) : Prop := (∃ b, e = .returned (.bool b)) ∧ w' = w

theorem zzBytes5 (w : World) (p : Option Addr) (n c : Nat) (hn : n ≤ 9223372036854775807) : Calls Try.prog 5 #[.slice p n c] w (BoolPost w) := by
  go_enter Try.func5, Try.ntmps5
  by_cases h1 : 1048576 < n
  · go_wp2
    go_ret
    exact ⟨⟨_, rfl⟩, rfl⟩
  go_wp2
  go_ret
  exact ⟨⟨_, rfl⟩, rfl⟩

theorem zzBytes9 (w : World) (p p' : Option Addr) (n n' c c' : Nat) (hn : n ≤ 9223372036854775807) (hn' : n' ≤ 9223372036854775807) : Calls Try.prog 9 #[.slice p n c, .slice p' n' c'] w (BoolPost w) := by
  go_enter Try.func9, Try.ntmps9
  by_cases h1 : 1048576 < n
  · go_wp2
    go_ret
    exact ⟨⟨_, rfl⟩, rfl⟩
  by_cases h2 : 1048576 < n'
  · go_wp2
    go_ret
    exact ⟨⟨_, rfl⟩, rfl⟩
  by_cases h3 : (1048576 : Int) < (n : Int) + (n' : Int)
  · go_wp2
    go_ret
    exact ⟨⟨_, rfl⟩, rfl⟩
  go_wp2
  go_ret
  exact ⟨⟨_, rfl⟩, rfl⟩

end Go.Proofs.Qxb6625448a
