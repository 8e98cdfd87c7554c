/-
  Seat b6625644a: the plain side: a chain of parents.
-/
namespace Go.Proofs.Qxb6625644a

/-- From v the parents' chain walks through the nodes L, each inside Z, and then comes to a negative entry. -/
def Rt (Z : List Int) : Int → List Int → Prop
  | v, [] => v < 0
  | v, x :: L => x = v ∧ 0 ≤ v ∧ v < Z.length ∧ Rt Z (Z.getD v.toNat 0) L

theorem Rt.pos {Z : List Int} {v : Int} {L : List Int} (h : Rt Z v L) (hv : 0 ≤ v) : ∃ L', L = v :: L' ∧ v < Z.length ∧ Rt Z (Z.getD v.toNat 0) L' := by
  cases L with
  | nil => unfold Rt at h; omega
  | cons x L' =>
    unfold Rt at h
    obtain ⟨rfl, _, h1, h2⟩ := h
    exact ⟨L', rfl, h1, h2⟩

theorem Rt.neg {Z : List Int} {v : Int} {L : List Int} (h : Rt Z v L) (hv : v < 0) : L = [] := by
  cases L with
  | nil => rfl
  | cons x L' => unfold Rt at h; omega

theorem Rt.snoc {Z : List Int} : ∀ (L : List Int) {v : Int}, (∀ x, Rt Z x [] → True) → Rt Z v L → ∀ x ∈ L, 0 ≤ x ∧ x < Z.length := by
  intro L
  induction L with
  | nil => intro v _ _ x hx; simp at hx
  | cons y L ih =>
    intro v h0 h x hx
    unfold Rt at h
    obtain ⟨rfl, h1, h2, h3⟩ := h
    simp only [List.mem_cons] at hx
    rcases hx with rfl | hx
    · exact ⟨h1, h2⟩
    · exact ih h0 h3 x hx

/-- The node at place k of the chain: what follows it is its own chain. -/
theorem Rt.drop {Z : List Int} : ∀ (L : List Int) {v : Int}, Rt Z v L → ∀ (k : Nat) (x : Int), L[k]? = some x → Rt Z x (L.drop k) := by
  intro L
  induction L with
  | nil => intro v _ k x hx; simp at hx
  | cons y L ih =>
    intro v h k x hx
    cases k with
    | zero =>
      simp only [List.getElem?_cons_zero, Option.some.injEq] at hx
      subst hx
      have h' := h
      unfold Rt at h'
      obtain ⟨rfl, _⟩ := h'
      simpa using h
    | succ k =>
      unfold Rt at h
      simp only [List.getElem?_cons_succ] at hx
      simpa using ih h.2.2.2 k x hx

/-- The road so far: L1 was walked, v is where it stands. -/
def Way (Z : List Int) (u : Int) (L1 : List Int) (v : Int) : Prop := ∀ L2, Rt Z v L2 → Rt Z u (L1 ++ L2)

theorem Way.refl (Z : List Int) (u : Int) : Way Z u [] u := fun _ h => h

theorem Way.step {Z : List Int} {u v : Int} {L1 : List Int} (h : Way Z u L1 v) (h0 : 0 ≤ v) (h1 : v < Z.length) : Way Z u (L1 ++ [v]) (Z.getD v.toNat 0) := by
  intro L2 h2
  rw [List.append_assoc]
  exact h _ ⟨rfl, h0, h1, h2⟩

end Go.Proofs.Qxb6625644a
