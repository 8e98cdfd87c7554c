/-
  Seat b6625448a: a message as the wire grammar reads it: its fields, and whether all of it is well formed. No Go in sight.
-/
import Derived.Test.Qxb6625448aPlain
namespace Go.Proofs.Qxb6625448a

/-- One field: its number, its wire type, where its value begins and ends. -/
structure Fd where
  f : Nat
  w : Nat
  s : Nat
  e : Nat

/-- Where the value begins: behind the length, if it has one. -/
def startOf (B : List Nat) (pos w : Nat) : Nat := if w = 2 then pos + ((vi B pos).getD (0, 0)).2 else pos

def scan (B : List Nat) : Nat → Nat → List Fd × Bool
  | 0, _ => ([], true)
  | k + 1, pos => if B.length ≤ pos then ([], true) else
    match vi B pos with
    | none => ([], false)
    | some (t, n) => match VE B (pos + n) (t % 8) with
      | none => ([], false)
      | some e => (⟨t / 8, t % 8, startOf B (pos + n) (t % 8), e⟩ :: (scan B k e).1, (scan B k e).2)

theorem scan_fuel (B : List Nat) : ∀ (k k' pos : Nat), B.length < pos + k → B.length < pos + k' → scan B k pos = scan B k' pos := by
  intro k
  induction k with
  | zero =>
    intro k' pos h h'
    cases k' with
    | zero => rfl
    | succ k' => rw [scan, scan, if_pos (by omega)]
  | succ k ih =>
    intro k' pos h h'
    cases k' with
    | zero => rw [scan, scan, if_pos (by omega)]
    | succ k' =>
      unfold scan
      split
      · rfl
      · cases hv : vi B pos with
        | none => rfl
        | some x =>
          obtain ⟨t, n⟩ := x
          have hf := vi_facts hv
          cases he : VE B (pos + n) (t % 8) with
          | none => simp only [he]
          | some e =>
            have hg := VE_facts he
            simp only [he]
            rw [ih k' e (by omega) (by omega)]

/-- The message from 'pos' on. -/
def S (B : List Nat) (pos : Nat) : List Fd × Bool := scan B (B.length + 1) pos

theorem S_end {B : List Nat} {pos : Nat} (h : B.length ≤ pos) : S B pos = ([], true) := by
  unfold S scan; rw [if_pos h]

theorem S_noTag {B : List Nat} {pos : Nat} (h : pos < B.length) (hv : vi B pos = none) : S B pos = ([], false) := by
  unfold S scan; rw [if_neg (by omega), hv]

theorem S_noValue {B : List Nat} {pos t n : Nat} (h : pos < B.length) (hv : vi B pos = some (t, n)) (he : VE B (pos + n) (t % 8) = none) : S B pos = ([], false) := by
  unfold S scan; rw [if_neg (by omega), hv]; simp only [he]

theorem S_field {B : List Nat} {pos t n e : Nat} (h : pos < B.length) (hv : vi B pos = some (t, n)) (he : VE B (pos + n) (t % 8) = some e) :
    S B pos = (⟨t / 8, t % 8, startOf B (pos + n) (t % 8), e⟩ :: (S B e).1, (S B e).2) := by
  have hf := vi_facts hv
  have hg := VE_facts he
  unfold S
  rw [scan, if_neg (by omega), hv]
  simp only [he]
  rw [scan_fuel B B.length (B.length + 1) e (by omega) (by omega)]

/-- What the two walks carry: the fields that are behind us. -/
def Upto (B : List Nat) (pos : Nat) (L : List Fd) : Prop := S B 0 = (L ++ (S B pos).1, (S B pos).2)

theorem Upto.start (B : List Nat) : Upto B 0 [] := by simp [Upto]

theorem Upto.ended {B : List Nat} {pos : Nat} {L : List Fd} (h : Upto B pos L) (hp : B.length ≤ pos) : S B 0 = (L, true) := by
  rw [h, S_end hp, List.append_nil]

theorem Upto.noTag {B : List Nat} {pos : Nat} {L : List Fd} (h : Upto B pos L) (hp : pos < B.length) (hv : vi B pos = none) : S B 0 = (L, false) := by
  rw [h, S_noTag hp hv, List.append_nil]

theorem Upto.noValue {B : List Nat} {pos t n : Nat} {L : List Fd} (h : Upto B pos L) (hp : pos < B.length) (hv : vi B pos = some (t, n)) (he : VE B (pos + n) (t % 8) = none) : S B 0 = (L, false) := by
  rw [h, S_noValue hp hv he, List.append_nil]

theorem Upto.step {B : List Nat} {pos t n e : Nat} {L : List Fd} (h : Upto B pos L) (hp : pos < B.length) (hv : vi B pos = some (t, n)) (he : VE B (pos + n) (t % 8) = some e) :
    Upto B e (L ++ [⟨t / 8, t % 8, startOf B (pos + n) (t % 8), e⟩]) := by
  unfold Upto
  rw [h, S_field hp hv he]
  simp

/-- A value of wire type 2: its length is a varint, and the bytes are there. -/
theorem two_facts {B : List Nat} {pos e : Nat} (h : VE B pos 2 = some e) : ∃ l m, vi B pos = some (l, m) ∧ e = pos + m + l ∧ startOf B pos 2 = pos + m := by
  unfold VE flat at h
  simp only [show ¬ (2 = 3) by omega, show ¬ (2 = 0) by omega, show ¬ (2 = 1) by omega, show ¬ (2 = 5) by omega, if_false, if_true] at h
  cases hv : vi B pos with
  | none => simp [hv] at h
  | some x =>
    obtain ⟨l, m⟩ := x
    simp only [hv, Option.bind_some] at h
    split at h
    · simp at h
    · simp only [Option.some.injEq] at h
      exact ⟨l, m, rfl, h.symm, by simp [startOf, hv]⟩

theorem start_facts {B : List Nat} {pos w e : Nat} (h : VE B pos w = some e) : pos ≤ startOf B pos w ∧ startOf B pos w ≤ e ∧ e ≤ B.length := by
  have hf := VE_facts h
  by_cases hw : w = 2
  · subst hw
    obtain ⟨l, m, _, he, hs⟩ := two_facts h
    rw [hs]; omega
  · simp [startOf, hw]; omega

end Go.Proofs.Qxb6625448a
