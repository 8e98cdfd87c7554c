/-
  Seat b6625448a: two messages one behind the other, as the wire grammar reads them. No Go in sight.
-/
import Derived.Test.Qxb6625448aScan
namespace Go.Proofs.Qxb6625448a

/-! ### what reads well in A reads so in A ++ B -/

theorem vgo_ext (A B : List Nat) (pos : Nat) : ∀ (k i y : Nat) {x : Nat × Nat}, vgo A pos k i y = some x → vgo (A ++ B) pos k i y = some x := by
  intro k
  induction k with
  | zero => intro i y x h; simp [vgo] at h
  | succ k ih =>
    intro i y x h
    unfold vgo at h ⊢
    split at h
    · simp at h
    · rename_i c hc
      have hlt : pos + i < A.length := (List.getElem?_eq_some_iff.1 hc).1
      rw [List.getElem?_append_left hlt, hc]
      simp only
      split
      · rename_i h1
        rw [if_pos h1] at h
        exact h
      · rename_i h1
        rw [if_neg h1] at h
        exact ih _ _ h

theorem vi_ext {A : List Nat} (B : List Nat) {pos : Nat} {x : Nat × Nat} (h : vi A pos = some x) : vi (A ++ B) pos = some x := vgo_ext A B pos 10 0 0 h

theorem flat_ext {A : List Nat} (B : List Nat) {pos w p : Nat} (h : flat A pos w = some p) : flat (A ++ B) pos w = some p := by
  unfold flat at h ⊢
  rw [List.length_append]
  split at h
  · rename_i hw
    rw [if_pos hw]
    cases hv : vi A pos with
    | none => simp [hv] at h
    | some x => rw [vi_ext B hv]; simpa [hv] using h
  rename_i hw0
  rw [if_neg hw0]
  split at h
  · rename_i hw
    rw [if_pos hw]
    split at h
    · simp at h
    · rw [if_neg (by omega)]; exact h
  rename_i hw1
  rw [if_neg hw1]
  split at h
  · rename_i hw
    rw [if_pos hw]
    split at h
    · simp at h
    · rw [if_neg (by omega)]; exact h
  rename_i hw5
  rw [if_neg hw5]
  split at h
  · rename_i hw
    rw [if_pos hw]
    cases hv : vi A pos with
    | none => simp [hv] at h
    | some x =>
      rw [vi_ext B hv]
      simp only [hv, Option.bind_some] at h ⊢
      split at h
      · simp at h
      · rw [if_neg (by omega)]; exact h
  · simp at h

theorem ge_ext (A B : List Nat) : ∀ (f f' pos : Nat) {p : Nat}, f ≤ f' → ge A f pos = some p → ge (A ++ B) f' pos = some p := by
  intro f
  induction f with
  | zero => intro f' pos p _ h; simp [ge] at h
  | succ f ih =>
    intro f' pos p hf h
    obtain ⟨f', rfl⟩ : ∃ k, f' = k + 1 := ⟨f' - 1, by omega⟩
    unfold ge at h ⊢
    cases hv : vi A pos with
    | none => simp [hv] at h
    | some x =>
      rw [vi_ext B hv]
      simp only [hv, Option.bind_some] at h ⊢
      split
      · rename_i h4
        rw [if_pos h4] at h
        exact h
      rename_i h4
      rw [if_neg h4] at h
      split
      · rename_i h3
        rw [if_pos h3] at h
        cases hg : ge A f (pos + x.2) with
        | none => simp [hg] at h
        | some q =>
          rw [ih f' _ (by omega) hg]
          simp only [hg, Option.bind_some] at h ⊢
          exact ih f' _ (by omega) h
      · rename_i h3
        rw [if_neg h3] at h
        cases hg : flat A (pos + x.2) (x.1 % 8) with
        | none => simp [hg] at h
        | some q =>
          rw [flat_ext B hg]
          simp only [hg, Option.bind_some] at h ⊢
          exact ih f' _ (by omega) h

theorem VE_ext {A : List Nat} (B : List Nat) {pos w p : Nat} (h : VE A pos w = some p) : VE (A ++ B) pos w = some p := by
  unfold VE at h ⊢
  split
  · rename_i h3
    rw [if_pos h3] at h
    exact ge_ext A B _ _ _ (by rw [List.length_append]; omega) h
  · rename_i h3
    rw [if_neg h3] at h
    exact flat_ext B h

theorem start_ext {A : List Nat} (B : List Nat) {pos w p : Nat} (h : VE A pos w = some p) : startOf (A ++ B) pos w = startOf A pos w := by
  by_cases hw : w = 2
  · subst hw
    obtain ⟨l, m, hv, _, hs⟩ := two_facts h
    rw [hs]
    simp [startOf, vi_ext B hv]
  · simp [startOf, hw]

/-- The fields of A are the first fields of A ++ B; where A is well formed, the rest are those from A's end on. -/
theorem S_ext (A B : List Nat) : ∀ (k pos : Nat), A.length ≤ pos + k → pos ≤ A.length →
    ∃ R, (S (A ++ B) pos).1 = (S A pos).1 ++ R ∧ ((S A pos).2 = true → R = (S (A ++ B) A.length).1 ∧ (S (A ++ B) pos).2 = (S (A ++ B) A.length).2) := by
  intro k
  induction k with
  | zero =>
    intro pos h1 h2
    have : pos = A.length := by omega
    subst this
    rw [S_end (B := A) (Nat.le_refl _)]
    exact ⟨_, by simp, fun _ => ⟨rfl, rfl⟩⟩
  | succ k ih =>
    intro pos h1 h2
    by_cases hp : pos = A.length
    · subst hp
      rw [S_end (B := A) (Nat.le_refl _)]
      exact ⟨_, by simp, fun _ => ⟨rfl, rfl⟩⟩
    have hlt : pos < A.length := by omega
    cases hv : vi A pos with
    | none =>
      rw [S_noTag hlt hv]
      exact ⟨_, by simp; rfl, fun h => by simp at h⟩
    | some x =>
      obtain ⟨t, n⟩ := x
      cases he : VE A (pos + n) (t % 8) with
      | none =>
        rw [S_noValue hlt hv he]
        exact ⟨_, by simp; rfl, fun h => by simp at h⟩
      | some e =>
        have hf := vi_facts hv
        have hg := VE_facts he
        obtain ⟨R, h3, h4⟩ := ih e (by omega) (by omega)
        have hlt' : pos < (A ++ B).length := by rw [List.length_append]; omega
        rw [S_field hlt hv he, S_field hlt' (vi_ext B hv) (VE_ext B he), start_ext B he]
        refine ⟨R, by simp [h3], h4⟩

/-! ### what lies behind A reads as if A were not there -/

theorem vgo_shift (A B : List Nat) (pos : Nat) : ∀ (k i y : Nat), vgo (A ++ B) (A.length + pos) k i y = vgo B pos k i y := by
  intro k
  induction k with
  | zero => intro i y; rfl
  | succ k ih =>
    intro i y
    unfold vgo
    have e : (A ++ B)[A.length + pos + i]? = B[pos + i]? := by
      rw [List.getElem?_append_right (by omega)]
      congr 1
      omega
    rw [e]
    split
    · rfl
    · rw [ih]

theorem vi_shift (A B : List Nat) (pos : Nat) : vi (A ++ B) (A.length + pos) = vi B pos := vgo_shift A B pos 10 0 0

theorem flat_shift (A B : List Nat) (pos w : Nat) : flat (A ++ B) (A.length + pos) w = (flat B pos w).map (A.length + ·) := by
  unfold flat
  rw [vi_shift, List.length_append]
  split
  · cases vi B pos with
    | none => rfl
    | some x => simp; omega
  split
  · by_cases h : B.length < pos + 8
    · rw [if_pos h, if_pos (by omega)]; rfl
    · rw [if_neg h, if_neg (by omega)]; simp; omega
  split
  · by_cases h : B.length < pos + 4
    · rw [if_pos h, if_pos (by omega)]; rfl
    · rw [if_neg h, if_neg (by omega)]; simp; omega
  split
  · cases vi B pos with
    | none => rfl
    | some x =>
      simp only [Option.bind_some]
      by_cases h : B.length < pos + x.2 + x.1
      · rw [if_pos h, if_pos (by omega)]; rfl
      · rw [if_neg h, if_neg (by omega)]; simp; omega
  · rfl

theorem ge_shift (A B : List Nat) : ∀ (f pos : Nat), ge (A ++ B) f (A.length + pos) = (ge B f pos).map (A.length + ·) := by
  intro f
  induction f with
  | zero => intro pos; rfl
  | succ f ih =>
    intro pos
    unfold ge
    rw [vi_shift]
    cases vi B pos with
    | none => rfl
    | some x =>
      simp only [Option.bind_some]
      have e : A.length + pos + x.2 = A.length + (pos + x.2) := by omega
      rw [e]
      split
      · rfl
      split
      · rw [ih]
        cases ge B f (pos + x.2) with
        | none => rfl
        | some q => simp only [Option.map_some, Option.bind_some]; exact ih q
      · rw [flat_shift]
        cases flat B (pos + x.2) (x.1 % 8) with
        | none => rfl
        | some q => simp only [Option.map_some, Option.bind_some]; exact ih q

theorem VE_shift (A B : List Nat) (pos w : Nat) : VE (A ++ B) (A.length + pos) w = (VE B pos w).map (A.length + ·) := by
  unfold VE
  split
  · unfold GE
    rw [ge_fuel (A ++ B) _ (B.length + 1) _ (by omega) (by rw [List.length_append]; omega)]
    exact ge_shift A B _ _
  · exact flat_shift A B pos w

theorem start_shift (A B : List Nat) (pos w : Nat) : startOf (A ++ B) (A.length + pos) w = A.length + startOf B pos w := by
  unfold startOf
  rw [vi_shift]
  split <;> omega

/-- A field, n places on. -/
def sh (n : Nat) (x : Fd) : Fd := ⟨x.f, x.w, n + x.s, n + x.e⟩

theorem S_shift (A B : List Nat) : ∀ (k pos : Nat), B.length ≤ pos + k → S (A ++ B) (A.length + pos) = ((S B pos).1.map (sh A.length), (S B pos).2) := by
  intro k
  induction k with
  | zero =>
    intro pos h
    rw [S_end (B := B) (by omega), S_end (by rw [List.length_append]; omega)]
    rfl
  | succ k ih =>
    intro pos h
    by_cases hp : B.length ≤ pos
    · rw [S_end (B := B) (by omega), S_end (by rw [List.length_append]; omega)]
      rfl
    have hlt : pos < B.length := by omega
    have hlt' : A.length + pos < (A ++ B).length := by rw [List.length_append]; omega
    cases hv : vi B pos with
    | none => rw [S_noTag hlt hv, S_noTag hlt' (by rw [vi_shift]; exact hv)]; rfl
    | some x =>
      obtain ⟨t, n⟩ := x
      have hv' : vi (A ++ B) (A.length + pos) = some (t, n) := by rw [vi_shift]; exact hv
      have ee : A.length + pos + n = A.length + (pos + n) := by omega
      cases he : VE B (pos + n) (t % 8) with
      | none =>
        rw [S_noValue hlt hv he, S_noValue hlt' hv' (by rw [ee, VE_shift, he]; rfl)]; rfl
      | some e =>
        have hf := vi_facts hv
        have hg := VE_facts he
        have he' : VE (A ++ B) (A.length + pos + n) (t % 8) = some (A.length + e) := by rw [ee, VE_shift, he]; rfl
        rw [S_field hlt hv he, S_field hlt' hv' he', ih e (by omega), ee, start_shift]
        rfl

/-- THE LAW. -/
theorem S_cat (A B : List Nat) : ∃ R, (S (A ++ B) 0).1 = (S A 0).1 ++ R ∧ ((S A 0).2 = true → R = (S B 0).1.map (sh A.length) ∧ (S (A ++ B) 0).2 = (S B 0).2) := by
  obtain ⟨R, h1, h2⟩ := S_ext A B A.length 0 (by omega) (by omega)
  have h3 := S_shift A B B.length 0 (by omega)
  rw [Nat.add_zero] at h3
  rw [h3] at h2
  exact ⟨R, h1, h2⟩

end Go.Proofs.Qxb6625448a
