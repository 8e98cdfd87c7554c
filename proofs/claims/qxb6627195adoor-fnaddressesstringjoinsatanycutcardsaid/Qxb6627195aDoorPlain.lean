/-
  Seat b6627195aD: the plain mathematics: dotted decimals, joined by commas. No Go in sight.
-/
import Derived.Lib.Join
namespace Go.Proofs.Qxb6627195aDoor
set_option linter.unusedSimpArgs false

/-- One address. -/
structure Q4 where
  a : Nat
  b : Nat
  c : Nat
  d : Nat

def Q4.at (q : Q4) (k : Nat) : Nat := if k = 0 then q.a else if k = 1 then q.b else if k = 2 then q.c else q.d
def Q4.Ok (q : Q4) : Prop := q.a < 256 ∧ q.b < 256 ∧ q.c < 256 ∧ q.d < 256

theorem Q4.at_lt {q : Q4} (h : q.Ok) (k : Nat) : q.at k < 256 := by
  obtain ⟨h1, h2, h3, h4⟩ := h
  unfold Q4.at
  split
  · exact h1
  · split
    · exact h2
    · split
      · exact h3
      · exact h4

theorem Q4.ext' {p q : Q4} (h0 : p.at 0 = q.at 0) (h1 : p.at 1 = q.at 1) (h2 : p.at 2 = q.at 2) (h3 : p.at 3 = q.at 3) : p = q := by
  obtain ⟨a, b, c, d⟩ := p
  obtain ⟨a', b', c', d'⟩ := q
  simp [Q4.at] at h0 h1 h2 h3
  simp [h0, h1, h2, h3]

/-- The digit's byte. -/
def dig (n : Nat) : UInt8 := UInt8.ofNat (48 + n)

/-- A number below 256 in decimal. -/
def dec (v : Nat) : List UInt8 := (if 100 ≤ v then [dig (v / 100)] else []) ++ ((if 10 ≤ v then [dig (v / 10 % 10)] else []) ++ [dig (v % 10)])

theorem dig_toNat {n : Nat} (h : n ≤ 9) : (dig n).toNat = 48 + n := by
  simp [dig]; omega

theorem dig_isDigit {n : Nat} (h : n ≤ 9) : 48 ≤ (dig n).toNat ∧ (dig n).toNat ≤ 57 := by
  rw [dig_toNat h]; omega

theorem dec_length (v : Nat) : 1 ≤ (dec v).length ∧ (dec v).length ≤ 3 := by
  unfold dec
  split <;> split <;> simp

theorem dec_ne_nil (v : Nat) : dec v ≠ [] := by
  have := (dec_length v).1
  intro h
  rw [h] at this
  simp at this

/-- The number that a row of digits says. -/
def num (l : List UInt8) : Nat := l.foldl (fun n c => n * 10 + (c.toNat - 48)) 0

theorem num_snoc (l : List UInt8) (c : UInt8) : num (l ++ [c]) = num l * 10 + (c.toNat - 48) := by simp [num]

theorem dec_digits {v : Nat} (h : v < 256) : ∀ c ∈ dec v, 48 ≤ c.toNat ∧ c.toNat ≤ 57 := by
  intro c hc
  unfold dec at hc
  simp only [List.mem_append, List.mem_singleton] at hc
  rcases hc with hc | hc | hc
  · split at hc
    · simp at hc; subst hc; exact dig_isDigit (by omega)
    · cases hc
  · split at hc
    · simp at hc; subst hc; exact dig_isDigit (by omega)
    · cases hc
  · subst hc; exact dig_isDigit (by omega)

theorem dec_num {v : Nat} (h : v < 256) : num (dec v) = v := by
  have h1 := dig_toNat (n := v / 100) (by omega)
  have h2 := dig_toNat (n := v / 10 % 10) (by omega)
  have h3 := dig_toNat (n := v % 10) (by omega)
  unfold dec num
  split <;> split <;> simp [h1, h2, h3] <;> omega

/-- No leading nought. -/
theorem dec_lead {v : Nat} (h : v < 256) (h2 : 1 < (dec v).length) : ∃ c r, dec v = c :: r ∧ c.toNat ≠ 48 := by
  have e1 := dig_toNat (n := v / 100) (by omega)
  have e2 := dig_toNat (n := v / 10 % 10) (by omega)
  unfold dec at h2 ⊢
  by_cases h100 : 100 ≤ v
  · rw [if_pos h100]
    exact ⟨_, _, rfl, by rw [e1]; omega⟩
  · rw [if_neg h100] at h2 ⊢
    by_cases h10 : 10 ≤ v
    · rw [if_pos h10]
      exact ⟨_, _, rfl, by rw [e2]; omega⟩
    · rw [if_neg h10] at h2
      simp at h2

theorem dec_inj {u v : Nat} (hu : u < 256) (hv : v < 256) (h : dec u = dec v) : u = v := by
  rw [← dec_num hu, ← dec_num hv, h]

/-- The four numbers of one address, with points between. -/
def quadTo (q : Q4) : Nat → List UInt8
  | 0 => []
  | k + 1 => quadTo q k ++ ((if 0 < k then [46] else []) ++ dec (q.at k))

def quad (q : Q4) : List UInt8 := quadTo q 4

/-- The flag's text. -/
def spell (Q : List Q4) : List UInt8 := Lib.join (Q.map quad) [44]

/-- .. as it grows, one address a round. -/
def spellTo (Q : List Q4) (i : Nat) : List UInt8 := spell (Q.take i)

theorem join_snoc (xs : List (List UInt8)) (x sep : List UInt8) : Lib.join (xs ++ [x]) sep = Lib.join xs sep ++ ((if xs = [] then [] else sep) ++ x) := by
  cases xs with
  | nil => simp [Lib.join_one, Lib.join_nil]
  | cons y r =>
    rw [List.cons_append, Lib.join_cons, Lib.join_cons]
    simp [Lib.joinTail]

theorem spell_step {Q : List Q4} {i : Nat} {q : Q4} (h : Q[i]? = some q) : spellTo Q (i + 1) = spellTo Q i ++ ((if 0 < i then [44] else []) ++ quad q) := by
  have hi : i < Q.length := (List.getElem?_eq_some_iff.1 h).1
  unfold spellTo spell
  rw [List.take_add_one, h, Option.toList_some, List.map_append, List.map_singleton, join_snoc]
  congr 2
  by_cases h0 : 0 < i
  · rw [if_pos h0, if_neg]
    intro e
    have := congrArg List.length e
    rw [List.length_map, List.length_take, List.length_nil] at this
    omega
  · have : i = 0 := by omega
    subst this
    simp

theorem spell_length (Q : List Q4) : ∀ i, (spellTo Q i).length ≤ 16 * i := by
  intro i
  induction i with
  | zero => simp [spellTo, spell, Lib.join_nil]
  | succ i ih =>
    by_cases hi : i < Q.length
    · rw [spell_step (List.getElem?_eq_getElem hi)]
      have h0 := dec_length (Q[i].at 0)
      have h1 := dec_length (Q[i].at 1)
      have h2 := dec_length (Q[i].at 2)
      have h3 := dec_length (Q[i].at 3)
      simp only [List.length_append, quad, quadTo, List.length_nil]
      split <;> simp <;> omega
    · have e : spellTo Q (i + 1) = spellTo Q i := by
        unfold spellTo
        rw [List.take_of_length_le (by omega), List.take_of_length_le (by omega)]
      rw [e]; omega

theorem spell_append {A B : List Q4} (ha : A ≠ []) (hb : B ≠ []) : spell (A ++ B) = spell A ++ 44 :: spell B := by
  obtain ⟨x, r, rfl⟩ : ∃ x r, A = x :: r := by cases A with | nil => exact absurd rfl ha | cons x r => exact ⟨x, r, rfl⟩
  obtain ⟨y, s, rfl⟩ : ∃ y s, B = y :: s := by cases B with | nil => exact absurd rfl hb | cons y s => exact ⟨y, s, rfl⟩
  unfold spell
  rw [List.map_append, List.map_cons, List.map_cons, List.cons_append, Lib.join_cons, Lib.join_cons, Lib.join_cons]
  simp [Lib.joinTail]


/-! ### two texts are one only where the two lists are -/
def isD (c : UInt8) : Bool := decide (48 ≤ c.toNat) && decide (c.toNat ≤ 57)

/-- What may stand behind a number: nothing, or no digit. -/
def Stops (r : List UInt8) : Prop := ∀ c s, r = c :: s → isD c = false

theorem dec_isD {v : Nat} (h : v < 256) : ∀ c ∈ dec v, isD c = true := fun c hc => by
  have := dec_digits h c hc
  simp [isD, this]

theorem take_digits : ∀ (l r : List UInt8), (∀ c ∈ l, isD c = true) → Stops r → (l ++ r).takeWhile isD = l ∧ (l ++ r).dropWhile isD = r
  | [], [], _, _ => by simp
  | [], c :: s, _, h => by
    have := h c s rfl
    simp [List.takeWhile_cons, List.dropWhile_cons, this]
  | c :: l, r, hl, h => by
    have h1 := hl c (by simp)
    obtain ⟨e1, e2⟩ := take_digits l r (fun x hx => hl x (by simp [hx])) h
    simp [List.takeWhile_cons, List.dropWhile_cons, h1, e1, e2]

theorem dec_split {u v : Nat} {r s : List UInt8} (hu : u < 256) (hv : v < 256) (hr : Stops r) (hs : Stops s) (h : dec u ++ r = dec v ++ s) : u = v ∧ r = s := by
  obtain ⟨a1, a2⟩ := take_digits (dec u) r (dec_isD hu) hr
  obtain ⟨b1, b2⟩ := take_digits (dec v) s (dec_isD hv) hs
  rw [h] at a1 a2
  exact ⟨dec_inj hu hv (a1.symm.trans b1), a2.symm.trans b2⟩

theorem stops_point (r : List UInt8) : Stops (46 :: r) := by
  intro c s h
  cases h
  decide

theorem stops_comma (r : List UInt8) : Stops (44 :: r) := by
  intro c s h
  cases h
  decide

theorem stops_nil : Stops [] := by
  intro c s h
  cases h

theorem quad_eq (q : Q4) : quad q = dec (q.at 0) ++ 46 :: (dec (q.at 1) ++ 46 :: (dec (q.at 2) ++ 46 :: dec (q.at 3))) := by
  simp [quad, quadTo]

theorem quad_split {p q : Q4} {r s : List UInt8} (hp : p.Ok) (hq : q.Ok) (hr : Stops r) (hs : Stops s) (h : quad p ++ r = quad q ++ s) : p = q ∧ r = s := by
  rw [quad_eq, quad_eq] at h
  simp only [List.append_assoc, List.cons_append] at h
  obtain ⟨e0, h⟩ := dec_split (Q4.at_lt hp 0) (Q4.at_lt hq 0) (stops_point _) (stops_point _) h
  obtain ⟨e1, h⟩ := dec_split (Q4.at_lt hp 1) (Q4.at_lt hq 1) (stops_point _) (stops_point _) (List.cons.inj h).2
  obtain ⟨e2, h⟩ := dec_split (Q4.at_lt hp 2) (Q4.at_lt hq 2) (stops_point _) (stops_point _) (List.cons.inj h).2
  obtain ⟨e3, h⟩ := dec_split (Q4.at_lt hp 3) (Q4.at_lt hq 3) hr hs (List.cons.inj h).2
  exact ⟨Q4.ext' e0 e1 e2 e3, h⟩

theorem tail_stops (Q : List Q4) : Stops (Lib.joinTail [44] (Q.map quad)) := by
  cases Q with
  | nil => exact stops_nil
  | cons q Q => simp only [Lib.joinTail, List.map_cons, List.flatten_cons, List.cons_append, List.nil_append]; exact stops_comma _

theorem tail_cons (q : Q4) (Q : List Q4) : Lib.joinTail [44] ((q :: Q).map quad) = 44 :: (quad q ++ Lib.joinTail [44] (Q.map quad)) := by
  simp [Lib.joinTail]

theorem tail_inj : ∀ (A B : List Q4), (∀ q ∈ A, q.Ok) → (∀ q ∈ B, q.Ok) → Lib.joinTail [44] (A.map quad) = Lib.joinTail [44] (B.map quad) → A = B
  | [], [], _, _, _ => rfl
  | [], b :: B, _, _, h => by rw [tail_cons] at h; simp [Lib.joinTail] at h
  | a :: A, [], _, _, h => by rw [tail_cons] at h; simp [Lib.joinTail] at h
  | a :: A, b :: B, hA, hB, h => by
    rw [tail_cons, tail_cons] at h
    obtain ⟨e, h'⟩ := quad_split (hA a (by simp)) (hB b (by simp)) (tail_stops A) (tail_stops B) (List.cons.inj h).2
    rw [e, tail_inj A B (fun q hq => hA q (by simp [hq])) (fun q hq => hB q (by simp [hq])) h']

theorem quad_ne_nil (q : Q4) : quad q ≠ [] := by
  rw [quad_eq]
  have := dec_ne_nil (q.at 0)
  simp [this]

theorem spell_cons (q : Q4) (Q : List Q4) : spell (q :: Q) = quad q ++ Lib.joinTail [44] (Q.map quad) := by
  unfold spell
  rw [List.map_cons, Lib.join_cons]

theorem spell_inj {A B : List Q4} (hA : ∀ q ∈ A, q.Ok) (hB : ∀ q ∈ B, q.Ok) (h : spell A = spell B) : A = B := by
  match A, B with
  | [], [] => rfl
  | [], b :: B => rw [spell_cons] at h; simp [spell, Lib.join_nil] at h; exact absurd h.1 (quad_ne_nil b)
  | a :: A, [] => rw [spell_cons] at h; simp [spell, Lib.join_nil] at h; exact absurd h.1 (quad_ne_nil a)
  | a :: A, b :: B =>
    rw [spell_cons, spell_cons] at h
    obtain ⟨e, h'⟩ := quad_split (hA a (by simp)) (hB b (by simp)) (tail_stops A) (tail_stops B) h
    rw [e, tail_inj A B (fun q hq => hA q (by simp [hq])) (fun q hq => hB q (by simp [hq])) h']

end Go.Proofs.Qxb6627195aDoor
