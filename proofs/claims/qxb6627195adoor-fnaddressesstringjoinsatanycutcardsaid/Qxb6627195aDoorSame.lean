/-
  Seat b6627195aD: 'zzSameQuads' (11): are the two lists one?
-/
import Derived.Test.Qxb6627195aDoorQuads
import Derived.Deep.QuietTactic
import Derived.BigQuiet
namespace Go.Proofs.Qxb6627195aDoor
open Go.RowKit
set_option linter.unusedSimpArgs false
set_option linter.unusedVariables false

theorem eq_of_nth {A B : List Q4} (hl : A.length = B.length) (h : ∀ i, i < A.length → nth A i = nth B i) : A = B := by
  apply List.ext_getElem? 
  intro i
  by_cases hi : i < A.length
  · rw [nth_some hi, nth_some (by omega), h i hi]
  · rw [List.getElem?_eq_none (by omega), List.getElem?_eq_none (by omega)]

theorem below_drewN (w : World) (n : Nat) : Below w.heap.size w (w.drewN n) := ⟨rfl, rfl, rfl, Nat.le_refl _, fun _ _ => rfl⟩

def SamePost (A B : List Q4) (w : World) (e : Ending) (w' : World) : Prop := (∃ b, e = .returned (.bool b) ∧ (b = true ↔ A = B)) ∧ Below w.heap.size w w'

theorem same_ne (w : World) (p p' : Option Addr) (c c' : Nat) (A B : List Q4) (hA : A.length ≤ 262144) (hB : B.length ≤ 262144) (hne : A.length ≠ B.length) :
    Calls Tryd.prog 11 #[.slice p A.length c, .slice p' B.length c'] w (SamePost A B w) := by
  have HN : Hid (false = true ↔ A = B) := ⟨fun h => by simp at h, fun h => absurd (congrArg List.length h) hne⟩
  generalize A.length = x at *
  generalize B.length = y at *
  go_enter Tryd.func11, Tryd.ntmps11
  go_wp2
  go_ret
  exact ⟨⟨_, rfl, HN⟩, Below.refl _ _⟩

set_option maxHeartbeats 1000000 in
theorem same_eq (w : World) (p p' : Option Addr) (c c' n : Nat) (A B : List Q4) (QA : Quads w p A) (QB : Quads w p' B) (hn : n ≤ 262144) (hA : A.length = n) (hB : B.length = n) :
    Calls Tryd.prog 11 #[.slice p n c, .slice p' n c'] w (SamePost A B w) := by
  go_enter Tryd.func11, Tryd.ntmps11
  go_wp2
  go_loopw [5] (fun i wr => ∃ k m : Nat, k ≤ n ∧ i = .int .i64 k ∧ wr = w.drewN m ∧ Hid (∀ i, i < k → nth A i = nth B i)) (fun i _ => n - (intOf i).toNat)
  case atStart => exact ⟨0, 0, Nat.zero_le _, rfl, rfl, fun i hi => by omega⟩
  case round =>
    obtain ⟨k, m, hk, rfl, rfl, HS⟩ := hrel
    by_cases hlt : k < n
    · obtain ⟨ga, rfl, hga, ca⟩ := QA.at (i := k) (by omega)
      obtain ⟨gb, rfl, hgb, cb⟩ := QB.at (i := k) (by omega)
      go_wp2
      go_loopw [6] (fun i wr => ∃ j m : Nat, j ≤ 4 ∧ i = .int .i64 j ∧ wr = w.drewN m ∧ Hid (∀ i, i < j → (nth A k).at i = (nth B k).at i)) (fun i _ => 4 - (intOf i).toNat)
      case atStart => exact ⟨0, m, Nat.zero_le _, rfl, rfl, fun i hi => by omega⟩
      case round =>
        obtain ⟨j, m, hj, rfl, rfl, HJ⟩ := hrel
        by_cases hj4 : j < 4
        · have ea := ca j hj4
          have eb := cb j hj4
          obtain ⟨x, hx⟩ : ∃ x, (nth A k).at j = x := ⟨_, rfl⟩
          obtain ⟨y, hy⟩ : ∃ y, (nth B k).at j = y := ⟨_, rfl⟩
          rw [hx] at ea
          rw [hy] at eb
          have HXY : Hid (_ ∧ _) := ⟨hx, hy⟩
          clear hx hy ca cb QA QB
          by_cases hxy : x = y
          · subst hxy
            go_wp2
            go_quiet (fail)
            go_wp2
            go_roundw
            case rel =>
              refine ⟨j + 1, _, by omega, by go_num, rfl, fun i hi => ?_⟩
              by_cases h : i = j
              · subst h; rw [HXY.out.1, HXY.out.2]
              · exact HJ.out i (by omega)
            case measure => simp [intOf]; omega
          · have hd : Hid (false = true ↔ A = B) := by
              refine ⟨fun h => by simp at h, ?_⟩
              rintro rfl
              exact absurd (HXY.out.1.symm.trans HXY.out.2) hxy
            have hxy' : ¬ ((x : Int) = (y : Int)) := by omega
            go_wp2
            go_quiet (fail)
            go_wp2
            go_ret
            exact ⟨⟨_, rfl, hd⟩, ⟨rfl, rfl, rfl, Nat.le_refl _, fun _ _ => rfl⟩⟩
        · obtain rfl : j = 4 := by omega
          clear ca cb QA QB
          go_wp2
          go_roundw
          case rel =>
            refine ⟨k + 1, _, by omega, by go_num, rfl, fun i hi => ?_⟩
            by_cases h : i = k
            · subst h
              exact Q4.ext' (HJ.out 0 (by omega)) (HJ.out 1 (by omega)) (HJ.out 2 (by omega)) (HJ.out 3 (by omega))
            · exact HS.out i (by omega)
          case measure => simp [intOf]; omega
    · have hd : Hid (A = B) := eq_of_nth (by omega) (fun i hi => HS.out i (by omega))
      go_wp2
      go_ret
      exact ⟨⟨_, rfl, fun _ => hd.out, fun _ => rfl⟩, ⟨rfl, rfl, rfl, Nat.le_refl _, fun _ _ => rfl⟩⟩

theorem zzSame (w : World) (p p' : Option Addr) (c c' : Nat) (A B : List Q4) (QA : Quads w p A) (QB : Quads w p' B) (hA : A.length ≤ 262144) (hB : B.length ≤ 262144) :
    Calls Tryd.prog 11 #[.slice p A.length c, .slice p' B.length c'] w (SamePost A B w) := by
  by_cases h : A.length = B.length
  · have := same_eq w p p' c c' A.length A B QA QB hA rfl h.symm
    rw [← h]
    exact this
  · exact same_ne w p p' c c' A B hA hB h

end Go.Proofs.Qxb6627195aDoor
