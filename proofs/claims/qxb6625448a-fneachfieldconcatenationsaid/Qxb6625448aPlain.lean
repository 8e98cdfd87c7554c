/-
  Seat b6625448a: the wire grammar with no Go in sight: varints, values, groups; the same read by a loop that counts open groups.
-/
import Derived.Laws.BitsAllLaws
import Derived.Laws.Bits64
namespace Go.Proofs.Qxb6625448a

/-- A byte's bits laid into a number at a place. -/
def mixA (y c s : Nat) : Nat := y ||| (c * 2 ^ s % 18446744073709551616)

theorem mixA_lt {y : Nat} (c s : Nat) (h : y < 18446744073709551616) : mixA y c s < 18446744073709551616 :=
  Nat.or_lt_two_pow (n := 64) h (Nat.mod_lt _ (by omega))

/-- k more bytes may be read; i are behind us; their number is y. -/
def vgo (B : List Nat) (pos : Nat) : Nat → Nat → Nat → Option (Nat × Nat)
  | 0, _, _ => none
  | k + 1, i, y => match B[pos + i]? with
    | none => none
    | some c => if c < 128 then (if i = 9 ∧ 1 < c then none else some (mixA y c (7 * i), i + 1)) else vgo B pos k (i + 1) (mixA y (c &&& 127) (7 * i))

/-- The varint at 'pos': its number and its size. -/
def vi (B : List Nat) (pos : Nat) : Option (Nat × Nat) := vgo B pos 10 0 0

theorem vgo_facts (B : List Nat) (pos : Nat) : ∀ (k i y : Nat) {v n : Nat}, y < 18446744073709551616 → vgo B pos k i y = some (v, n) → i < n ∧ n ≤ i + k ∧ pos + n ≤ B.length ∧ v < 18446744073709551616 := by
  intro k
  induction k with
  | zero => intro i y v n _ h; simp [vgo] at h
  | succ k ih =>
    intro i y v n hy h
    unfold vgo at h
    split at h
    · simp at h
    · rename_i c hc
      have hlt : pos + i < B.length := (List.getElem?_eq_some_iff.1 hc).1
      split at h
      · split at h
        · simp at h
        · simp only [Option.some.injEq, Prod.mk.injEq] at h
          obtain ⟨rfl, rfl⟩ := h
          exact ⟨by omega, by omega, by omega, mixA_lt _ _ hy⟩
      · obtain ⟨a, b, c, d⟩ := ih _ _ (mixA_lt _ _ hy) h
        exact ⟨by omega, by omega, c, d⟩

theorem vi_facts {B : List Nat} {pos v n : Nat} (h : vi B pos = some (v, n)) : 0 < n ∧ n ≤ 10 ∧ pos + n ≤ B.length ∧ v < 18446744073709551616 := by
  obtain ⟨a, b, c, d⟩ := vgo_facts B pos 10 0 0 (by omega) h
  exact ⟨a, by omega, c, d⟩

/-- What lies behind the varint bears nothing on it. -/
theorem vgo_take (B : List Nat) (pos m : Nat) : ∀ (k i y : Nat) {v n : Nat}, vgo B pos k i y = some (v, n) → pos + n ≤ m → vgo (B.take m) pos k i y = some (v, n) := by
  intro k
  induction k with
  | zero => intro i y v n h; simp [vgo] at h
  | succ k ih =>
    intro i y v n h hm
    unfold vgo at h ⊢
    split at h
    · simp at h
    · rename_i c hc
      have hlt : pos + i < B.length := (List.getElem?_eq_some_iff.1 hc).1
      have hin : pos + i < m := by
        split at h
        · split at h
          · simp at h
          · simp only [Option.some.injEq, Prod.mk.injEq] at h
            omega
        · -- the size is at least i + 2
          have : ∀ (k i y : Nat), vgo B pos k i y = some (v, n) → i < n := by
            intro k
            induction k with
            | zero => intro i y h; simp [vgo] at h
            | succ k ih2 =>
              intro i y h
              unfold vgo at h
              split at h
              · simp at h
              · split at h
                · split at h
                  · simp at h
                  · simp only [Option.some.injEq, Prod.mk.injEq] at h; omega
                · have := ih2 _ _ h; omega
          have := this _ _ _ h
          omega
      have hc' : (B.take m)[pos + i]? = some c := by rw [List.getElem?_take, if_pos hin]; exact hc
      rw [hc']
      simp only
      split
      · rename_i h1
        rw [if_pos h1] at h
        exact h
      · rename_i h1
        rw [if_neg h1] at h
        exact ih _ _ h hm

theorem vi_take {B : List Nat} {pos m v n : Nat} (h : vi B pos = some (v, n)) (hm : pos + n ≤ m) : vi (B.take m) pos = some (v, n) := vgo_take B pos m 10 0 0 h hm

/-! ### values and groups -/

/-- A value that is no group: where it ends. -/
def flat (B : List Nat) (pos w : Nat) : Option Nat :=
  if w = 0 then (vi B pos).map fun x => pos + x.2
  else if w = 1 then (if B.length < pos + 8 then none else some (pos + 8))
  else if w = 5 then (if B.length < pos + 4 then none else some (pos + 4))
  else if w = 2 then (vi B pos).bind fun x => if B.length < pos + x.2 + x.1 then none else some (pos + x.2 + x.1)
  else none

theorem flat_facts {B : List Nat} {pos w p : Nat} (h : flat B pos w = some p) : pos ≤ p ∧ p ≤ B.length := by
  unfold flat at h
  split at h
  · cases hv : vi B pos with
    | none => simp [hv] at h
    | some x => obtain ⟨v, n⟩ := x; have := vi_facts hv; simp [hv] at h; omega
  split at h
  · split at h
    · simp at h
    · simp at h; omega
  split at h
  · split at h
    · simp at h
    · simp at h; omega
  split at h
  · cases hv : vi B pos with
    | none => simp [hv] at h
    | some x =>
      obtain ⟨v, n⟩ := x
      have := vi_facts hv
      simp only [hv, Option.bind_some] at h
      split at h
      · simp at h
      · simp at h; omega
  · simp at h

/-- The fields of a group from 'pos' on: the place behind the tag that ends it. Fuel: the bytes that are left. -/
def ge (B : List Nat) : Nat → Nat → Option Nat
  | 0, _ => none
  | f + 1, pos => (vi B pos).bind fun x =>
    if x.1 % 8 = 4 then some (pos + x.2)
    else if x.1 % 8 = 3 then (ge B f (pos + x.2)).bind (ge B f)
    else (flat B (pos + x.2) (x.1 % 8)).bind (ge B f)

theorem ge_facts (B : List Nat) : ∀ (f pos : Nat) {p : Nat}, ge B f pos = some p → pos < p ∧ p ≤ B.length := by
  intro f
  induction f with
  | zero => intro pos p h; simp [ge] at h
  | succ f ih =>
    intro pos p h
    unfold ge at h
    cases hv : vi B pos with
    | none => simp [hv] at h
    | some x =>
      obtain ⟨v, n⟩ := x
      have hf := vi_facts hv
      simp only [hv, Option.bind_some] at h
      split at h
      · simp at h; omega
      split at h
      · cases h1 : ge B f (pos + n) with
        | none => simp [h1] at h
        | some q =>
          have a := ih _ h1
          simp only [h1, Option.bind_some] at h
          have b := ih _ h
          omega
      · cases h1 : flat B (pos + n) (v % 8) with
        | none => simp [h1] at h
        | some q =>
          have a := flat_facts h1
          simp only [h1, Option.bind_some] at h
          have b := ih _ h
          omega

theorem vi_none {B : List Nat} {pos : Nat} (h : B.length ≤ pos) : vi B pos = none := by
  unfold vi vgo
  rw [List.getElem?_eq_none (by omega)]

theorem bind_congr {α β : Type} {o : Option α} {f g : α → Option β} (h : ∀ x, o = some x → f x = g x) : o.bind f = o.bind g := by
  cases o with
  | none => rfl
  | some x => exact h x rfl

theorem ge_fuel (B : List Nat) : ∀ (f f' pos : Nat), B.length < pos + f → B.length < pos + f' → ge B f pos = ge B f' pos := by
  intro f
  induction f with
  | zero =>
    intro f' pos h _
    cases f' with
    | zero => rfl
    | succ f' => simp [ge, vi_none (B := B) (pos := pos) (by omega)]
  | succ f ih =>
    intro f' pos h h'
    cases f' with
    | zero => simp [ge, vi_none (B := B) (pos := pos) (by omega)]
    | succ f' =>
      unfold ge
      apply bind_congr
      rintro ⟨v, n⟩ hv
      have hf := vi_facts hv
      simp only
      split
      · rfl
      split
      · rw [ih f' (pos + n) (by omega) (by omega)]
        apply bind_congr
        intro q hq
        have := ge_facts B _ _ hq
        exact ih f' q (by omega) (by omega)
      · apply bind_congr
        intro q hq
        have := flat_facts hq
        exact ih f' q (by omega) (by omega)

/-- The place behind the group that begins at 'pos'. -/
def GE (B : List Nat) (pos : Nat) : Option Nat := ge B (B.length + 1) pos

/-- The place behind the value of wire type w that begins at 'pos'. -/
def VE (B : List Nat) (pos w : Nat) : Option Nat := if w = 3 then GE B pos else flat B pos w

theorem GE_facts {B : List Nat} {pos p : Nat} (h : GE B pos = some p) : pos < p ∧ p ≤ B.length := ge_facts B _ _ h

theorem VE_facts {B : List Nat} {pos w p : Nat} (h : VE B pos w = some p) : pos ≤ p ∧ p ≤ B.length := by
  unfold VE at h
  split at h
  · have := GE_facts h; omega
  · exact flat_facts h

theorem GE_eq (B : List Nat) (pos : Nat) : GE B pos = (vi B pos).bind fun x => if x.1 % 8 = 4 then some (pos + x.2) else (VE B (pos + x.2) (x.1 % 8)).bind (GE B) := by
  unfold GE
  rw [ge]
  apply bind_congr
  rintro ⟨v, n⟩ hv
  have hf := vi_facts hv
  simp only
  split
  · rfl
  · unfold VE
    split
    · rename_i h4 h3
      have e : ge B B.length (pos + n) = GE B (pos + n) := ge_fuel B _ _ _ (by omega) (by omega)
      rw [e]
      apply bind_congr
      intro q hq
      have := GE_facts hq
      exact ge_fuel B _ _ _ (by omega) (by omega)
    · rename_i h4 h3
      apply bind_congr
      intro q hq
      have := flat_facts hq
      exact ge_fuel B _ _ _ (by omega) (by omega)

/-- g groups are open. -/
def shutAll (B : List Nat) : Nat → Nat → Option Nat
  | 0, p => some p
  | g + 1, p => (GE B p).bind (shutAll B g)

/-- What the loop that counts open groups has yet to answer. -/
def ans (B : List Nat) (pos g w : Nat) : Option Nat :=
  if w = 4 then (match g with | 0 => none | g + 1 => shutAll B g pos) else (VE B pos w).bind (shutAll B g)

theorem ans_zero (B : List Nat) (pos w : Nat) (h : w ≠ 4) : ans B pos 0 w = VE B pos w := by
  unfold ans
  rw [if_neg h]
  cases VE B pos w <;> rfl

theorem VE_four (B : List Nat) (pos : Nat) : VE B pos 4 = none := by simp [VE, flat]

theorem ans_zero' (B : List Nat) (pos w : Nat) : ans B pos 0 w = VE B pos w := by
  by_cases h : w = 4
  · subst h; rw [VE_four]; simp [ans]
  · exact ans_zero B pos w h

/-- One tag more. -/
theorem shutAll_step (B : List Nat) (g pos : Nat) : shutAll B (g + 1) pos = (vi B pos).bind fun x => ans B (pos + x.2) (g + 1) (x.1 % 8) := by
  rw [shutAll, GE_eq]
  cases hv : vi B pos with
  | none => rfl
  | some x =>
    obtain ⟨v, n⟩ := x
    simp only [Option.bind_some]
    unfold ans
    split
    · rfl
    · cases h : VE B (pos + n) (v % 8) with
      | none => rfl
      | some q => simp only [Option.bind_some]; rfl

theorem ans_three (B : List Nat) (pos g : Nat) : ans B pos g 3 = shutAll B (g + 1) pos := by
  simp [ans, VE, shutAll]

end Go.Proofs.Qxb6625448a
