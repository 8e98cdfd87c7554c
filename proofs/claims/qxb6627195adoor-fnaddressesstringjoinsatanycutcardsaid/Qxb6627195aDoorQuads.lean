/-
  Seat b6627195aD: a list of addresses as it lies in a row of its own; 'zzSpellQuads' (8).
-/
import Derived.Test.Qxb6627195aDoorStr
import Derived.Deep.OwnRows
namespace Go.Proofs.Qxb6627195aDoor
open Go.RowKit
set_option linter.unusedSimpArgs false
set_option linter.unusedVariables false

/-- The i-th address. -/
def nth (Q : List Q4) (i : Nat) : Q4 := Q[i]?.getD ⟨0, 0, 0, 0⟩

def qcell (Q : List Q4) (j : Nat) : Value := .int .u8 (((nth Q (j / 4)).at (j % 4) : Nat) : Int)

/-- What lies behind a slice's pointer: nothing, or a row of its own. -/
structure Quads (w : World) (p : Option Addr) (Q : List Q4) : Prop where
  ok : ∀ q ∈ Q, q.Ok
  nil : p = none → Q = []
  row : ∀ a, p = some a → ∃ g, a = ⟨g, 0, none⟩ ∧ w.rowIs g 24 (4 * Q.length) (qcell Q)

theorem Quads.grown {w w' : World} {p : Option Addr} {Q : List Q4} (h : Quads w p Q) (hb : Below w.heap.size w w') : Quads w' p Q :=
  ⟨h.ok, h.nil, fun a ha => by
    obtain ⟨g, e, hr⟩ := h.row a ha
    exact ⟨g, e, hr.of_block (hb.block g hr.lt)⟩⟩

theorem nth_some {Q : List Q4} {i : Nat} (h : i < Q.length) : Q[i]? = some (nth Q i) := by
  simp [nth, h]

theorem Quads.nth_ok {w : World} {p : Option Addr} {Q : List Q4} (h : Quads w p Q) {i : Nat} (hi : i < Q.length) : (nth Q i).Ok :=
  h.ok _ (List.mem_of_getElem? (nth_some hi))

theorem Quads.at {w : World} {p : Option Addr} {Q : List Q4} (h : Quads w p Q) {i : Nat} (hi : i < Q.length) :
    ∃ g, p = some ⟨g, 0, none⟩ ∧ g < w.heap.size ∧ ∀ k, k < 4 → w.cell? ⟨g, i * 4 + k, none⟩ = some (.int .u8 (((nth Q i).at k : Nat) : Int)) := by
  cases p with
  | none => rw [h.nil rfl] at hi; simp at hi
  | some a =>
    obtain ⟨g, rfl, hr⟩ := h.row a rfl
    refine ⟨g, rfl, hr.lt, fun k hk => ?_⟩
    rw [hr.cell (i := i * 4 + k) (by omega)]
    unfold qcell
    rw [show (i * 4 + k) / 4 = i by omega, show (i * 4 + k) % 4 = k by omega]

theorem Q4.at_lt' {q : Q4} (h : q.Ok) (k : Nat) : q.at k < 256 := Q4.at_lt h k

theorem made_bytes (w : World) (n : Nat) (hn : n ≤ 4294967296) : (Instr.makeSlice 43 (.int .i64 0) (.int .i64 (n : Int))).run Tryd.prog w = .ok (.slice (some ⟨w.heap.size, 0, none⟩) 0 n) (w.alloc (.cells (madeCells #[.int .u8 0] n) 5)) := by
  obtain ⟨i0, hi, hz0, hz1, hz2⟩ := info_parts info5
  have := run_make (P := Tryd.prog) w 43 5 i0 _ Tryd.underlying43 hi hz0 .i64 .i64 0 n (by omega) (by omega) (by rw [hz2]; omega) (by omega)
  rw [this, hz1]
  simp [Value.cells]

theorem buf_made' (w : World) (n : Nat) (hn : n ≤ maxLen) : Buf (w.alloc (.cells (madeCells #[.int .u8 0] n) 5)) w.heap.size n [] :=
  World.ownsRow_made w _ n (Nat.zero_le _) hn (by simp [size_madeCells])

theorem appendDec_at (w : World) (g cap k : Nat) (t : List UInt8) (v : Nat) (hk : k = t.length) (hv : v < 256) (hb : Buf w g cap t) (hfit : k + (dec v).length ≤ cap) :
    Calls Tryd.prog 15 #[.slice (some ⟨g, 0, none⟩) k cap, .int .u8 (v : Int)] w fun e w' =>
      e = .returned (.slice (some ⟨g, 0, none⟩) (k + (dec v).length) cap) ∧ Hid (Buf w' g cap (t ++ dec v)) ∧ Hid (w.grownBy w' (some g)) := by
  subst hk
  exact appendDec_any w g cap t v hv hb hfit

theorem quadTo_length (q : Q4) : ∀ k, (quadTo q k).length ≤ 4 * k := by
  intro k
  induction k with
  | zero => simp [quadTo]
  | succ k ih =>
    have := dec_length (q.at k)
    simp only [quadTo, List.length_append]
    split <;> simp <;> omega

theorem quadTo_room (q : Q4) (k : Nat) (h : 0 < k) : (quadTo q k).length + 1 ≤ 4 * k := by
  cases k with
  | zero => omega
  | succ k =>
    induction k with
    | zero =>
      have := dec_length (q.at 0)
      simp [quadTo]; omega
    | succ k ih =>
      have := dec_length (q.at (k + 1))
      have := ih (by omega)
      rw [quadTo]
      simp only [List.length_append]
      split <;> simp <;> omega

theorem spell_room (Q : List Q4) (i : Nat) (h : 0 < i) : (spellTo Q i).length + 1 ≤ 16 * i := by
  induction i with
  | zero => omega
  | succ i ih =>
    by_cases hi : i < Q.length
    · rw [spell_step (nth_some hi)]
      have := quadTo_room (nth Q i) 4 (by omega)
      by_cases h0 : 0 < i
      · have := ih h0
        simp only [h0, if_true, List.length_append, quad, List.length_cons, List.length_nil]; omega
      · obtain rfl : i = 0 := by omega
        have := spell_length Q 0
        simp [quad]; omega
    · have e : spellTo Q (i + 1) = spellTo Q i := by
        unfold spellTo
        rw [List.take_of_length_le (by omega), List.take_of_length_le (by omega)]
      rw [e]
      by_cases h0 : 0 < i
      · have := ih h0; omega
      · obtain rfl : i = 0 := by omega
        have := spell_length Q 0
        omega

end Go.Proofs.Qxb6627195aDoor
