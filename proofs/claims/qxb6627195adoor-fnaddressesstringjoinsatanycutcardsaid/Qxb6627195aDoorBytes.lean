/-
  Seat b6627195aD: the bound laid by program, 'zzBytes' (5 and 9): it answers some bool and turns nothing.
-/
import Derived.Test.Qxb6627195aDoorStr
namespace Go.Proofs.Qxb6627195aDoor
open Go.RowKit
set_option linter.unusedSimpArgs false
set_option linter.unusedVariables false

set_option maxHeartbeats 1000000 in
theorem zzBytes5 (w : World) (p p' : Option Addr) (n n' c c' : Nat) (hn : n ≤ 9223372036854775807) (hn' : n' ≤ 9223372036854775807) :
    Calls Tryd.prog 5 #[.slice p n c, .slice p' n' c'] w fun e w' => (∃ b, e = .returned (.bool b)) ∧ w' = w := by
  go_enter Tryd.func5, Tryd.ntmps5
  by_cases h1 : 1048576 < n
  · go_wp2
    go_ret
    exact ⟨⟨_, rfl⟩, rfl⟩
  go_wp2
  go_loopw [5, 6] (fun s i wr => ∃ k t : Nat, k ≤ n ∧ i = .int .i64 k ∧ s = .int .i64 t ∧ t ≤ 1048576 ∧ wr = w) (fun _ i _ => n - (intOf i).toNat)
  case atStart => exact ⟨0, n, Nat.zero_le _, rfl, by go_num, by omega, rfl⟩
  case round =>
    obtain ⟨k, t, hk, rfl, rfl, ht, hw⟩ := hrel; subst wr
    by_cases hlt : k < n
    · by_cases h4 : (1048576 : Int) < (t : Int) + 4
      · go_wp2
        go_ret
        exact ⟨⟨_, rfl⟩, rfl⟩
      · go_wp2
        go_roundw
        case rel => exact ⟨k + 1, t + 4, by omega, by go_num, by go_num, by omega, by trivial⟩
        case measure => simp [intOf]; omega
    · by_cases h2 : 1048576 < n'
      · go_wp2
        go_ret
        exact ⟨⟨_, rfl⟩, rfl⟩
      by_cases h3 : 1048576 < t + n'
      · go_wp2
        go_ret
        exact ⟨⟨_, rfl⟩, rfl⟩
      go_wp2
      go_loopw [5, 7] (fun s i wr => ∃ k t : Nat, k ≤ n' ∧ i = .int .i64 k ∧ s = .int .i64 t ∧ t ≤ 1048576 ∧ wr = w) (fun _ i _ => n' - (intOf i).toNat)
      case atStart => exact ⟨0, t + n', Nat.zero_le _, rfl, by go_num, by omega, rfl⟩
      case round =>
        obtain ⟨k', t', hk', rfl, rfl, ht', hw⟩ := hrel; subst wr
        by_cases hlt' : k' < n'
        · by_cases h4 : (1048576 : Int) < (t' : Int) + 4
          · go_wp2
            go_ret
            exact ⟨⟨_, rfl⟩, rfl⟩
          · go_wp2
            go_roundw
            case rel => exact ⟨k' + 1, t' + 4, by omega, by go_num, by go_num, by omega, by trivial⟩
            case measure => simp [intOf]; omega
        · go_wp2
          go_ret
          exact ⟨⟨_, rfl⟩, rfl⟩

set_option maxHeartbeats 1000000 in
theorem zzBytes9 (w : World) (p p' : Option Addr) (n n' c c' : Nat) (hn : n ≤ 9223372036854775807) (hn' : n' ≤ 9223372036854775807) :
    Calls Tryd.prog 9 #[.slice p n c, .slice p' n' c'] w fun e w' => (∃ b, e = .returned (.bool b)) ∧ w' = w := by
  go_enter Tryd.func9, Tryd.ntmps9
  by_cases h1 : 1048576 < n
  · go_wp2
    go_ret
    exact ⟨⟨_, rfl⟩, rfl⟩
  go_wp2
  go_loopw [5, 6] (fun s i wr => ∃ k t : Nat, k ≤ n ∧ i = .int .i64 k ∧ s = .int .i64 t ∧ t ≤ 1048576 ∧ wr = w) (fun _ i _ => n - (intOf i).toNat)
  case atStart => exact ⟨0, n, Nat.zero_le _, rfl, by go_num, by omega, rfl⟩
  case round =>
    obtain ⟨k, t, hk, rfl, rfl, ht, hw⟩ := hrel; subst wr
    by_cases hlt : k < n
    · by_cases h4 : (1048576 : Int) < (t : Int) + 4
      · go_wp2
        go_ret
        exact ⟨⟨_, rfl⟩, rfl⟩
      · go_wp2
        go_roundw
        case rel => exact ⟨k + 1, t + 4, by omega, by go_num, by go_num, by omega, by trivial⟩
        case measure => simp [intOf]; omega
    · by_cases h2 : 1048576 < n'
      · go_wp2
        go_ret
        exact ⟨⟨_, rfl⟩, rfl⟩
      by_cases h3 : 1048576 < t + n'
      · go_wp2
        go_ret
        exact ⟨⟨_, rfl⟩, rfl⟩
      go_wp2
      go_loopw [5, 7] (fun s i wr => ∃ k t : Nat, k ≤ n' ∧ i = .int .i64 k ∧ s = .int .i64 t ∧ t ≤ 1048576 ∧ wr = w) (fun _ i _ => n' - (intOf i).toNat)
      case atStart => exact ⟨0, t + n', Nat.zero_le _, rfl, by go_num, by omega, rfl⟩
      case round =>
        obtain ⟨k', t', hk', rfl, rfl, ht', hw⟩ := hrel; subst wr
        by_cases hlt' : k' < n'
        · by_cases h4 : (1048576 : Int) < (t' : Int) + 4
          · go_wp2
            go_ret
            exact ⟨⟨_, rfl⟩, rfl⟩
          · go_wp2
            go_roundw
            case rel => exact ⟨k' + 1, t' + 4, by omega, by go_num, by go_num, by omega, by trivial⟩
            case measure => simp [intOf]; omega
        · go_wp2
          go_ret
          exact ⟨⟨_, rfl⟩, rfl⟩

end Go.Proofs.Qxb6627195aDoor
