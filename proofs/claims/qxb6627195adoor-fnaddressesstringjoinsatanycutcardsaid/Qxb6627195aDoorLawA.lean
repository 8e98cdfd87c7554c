/-
  Seat b6627195aD: the walk of 'FnAddressesStringJoinsAtAnyCut' (3).
-/
import Derived.Test.Qxb6627195aDoorLawB
import Derived.Test.Qxb6627195aDoorSpell
namespace Go.Proofs.Qxb6627195aDoor
open Go.RowKit
set_option linter.unusedSimpArgs false
set_option linter.unusedVariables false

/-- A row of addresses that is filled: the first k are there. -/
def ccell (Q : List Q4) (k j : Nat) : Value := if j < k * 4 then qcell Q j else .int .u8 0

theorem zero4 (j : Nat) : (#[Value.int .u8 0, .int .u8 0, .int .u8 0, .int .u8 0] : Array Value)[j % (#[Value.int .u8 0, .int .u8 0, .int .u8 0, .int .u8 0] : Array Value).size]! = .int .u8 0 := by
  have : j % 4 = 0 ∨ j % 4 = 1 ∨ j % 4 = 2 ∨ j % 4 = 3 := by omega
  rcases this with h | h | h | h <;> simp [h]

theorem strOf_cat (a b : List UInt8) : strOf (a ++ 44 :: b) = strOf a ++ (⟨#[44]⟩ : ByteArray) ++ strOf b := by
  apply ByteArray.ext
  simp [strOf, ByteArray.data_append]

theorem strOf_small {Q : List Q4} (h : Q.length ≤ 262144) : (strOf (spell Q)).size ≤ 4194304 := by
  have h1 := spell_length Q Q.length
  unfold spellTo at h1
  rw [List.take_length] at h1
  have h2 : (strOf (spell Q)).size = (spell Q).length := by simp [strOf, ByteArray.size]
  omega

structure CatAt (w wr : World) (g na nb : Nat) (p1 p2 : Option Addr) (A B : List Q4) (z : Addr) (k : Nat) : Prop where
  row : wr.rowIs g 24 ((na + nb) * 4) (ccell (A ++ B) k)
  qa : Quads wr p1 A
  qb : Quads wr p2 B
  laid : Laid wr z
  low : ∀ a, p1 = some a ∨ p2 = some a → a.block < g
  below : Below w.heap.size w wr
  base : w.heap.size ≤ g
  two : 1 < g

theorem nth_left {A B : List Q4} {k : Nat} (h : k < A.length) : nth (A ++ B) k = nth A k := by
  unfold nth; rw [List.getElem?_append_left h]

theorem nth_right {A B : List Q4} {k : Nat} : nth (A ++ B) (A.length + k) = nth B k := by
  unfold nth; rw [List.getElem?_append_right (by omega), show A.length + k - A.length = k by omega]

theorem set4_block (w : World) (G a b c d k : Nat) (x y t u : Value) (hne : k ≠ G) : ((((w.setCell ⟨G, a, none⟩ x).setCell ⟨G, b, none⟩ y).setCell ⟨G, c, none⟩ t).setCell ⟨G, d, none⟩ u).heap[k]? = w.heap[k]? := by
  rw [Below.heap_setCell _ _ _ _ hne, Below.heap_setCell _ _ _ _ hne, Below.heap_setCell _ _ _ _ hne, Below.heap_setCell _ _ _ _ hne]

theorem Quads.other {w w' : World} {p : Option Addr} {Q : List Q4} (h : Quads w p Q) (hb : ∀ a, p = some a → w'.heap[a.block]? = w.heap[a.block]?) : Quads w' p Q :=
  ⟨h.ok, h.nil, fun a ha => by
    obtain ⟨g, e, hr⟩ := h.row a ha
    refine ⟨g, e, hr.of_block ?_⟩
    have := hb a ha
    rw [e] at this
    exact this⟩

theorem ccell_step {w : World} {g N k : Nat} {Q : List Q4} {x0 x1 x2 x3 : Nat} (h : w.rowIs g 24 (N * 4) (ccell Q k)) (e0 : (nth Q k).at 0 = x0) (e1 : (nth Q k).at 1 = x1) (e2 : (nth Q k).at 2 = x2) (e3 : (nth Q k).at 3 = x3) :
    ((((w.setCell ⟨g, k * 4, none⟩ (.int .u8 x0)).setCell ⟨g, k * 4 + 1, none⟩ (.int .u8 x1)).setCell ⟨g, k * 4 + 2, none⟩ (.int .u8 x2)).setCell ⟨g, k * 4 + 3, none⟩ (.int .u8 x3)).rowIs g 24 (N * 4) (ccell Q (k + 1)) := by
  refine ((((h.set (k * 4) _).set (k * 4 + 1) _).set (k * 4 + 2) _).set (k * 4 + 3) _).congr (fun i _ => ?_)
  by_cases h3 : i = k * 4 + 3
  · subst h3
    simp [ccell, qcell, show k * 4 + 3 < (k + 1) * 4 by omega, show (k * 4 + 3) % 4 = 3 by omega, show (k * 4 + 3) / 4 = k by omega, e3]
  by_cases h2 : i = k * 4 + 2
  · subst h2
    simp [ccell, qcell, show k * 4 + 2 < (k + 1) * 4 by omega, show (k * 4 + 2) % 4 = 2 by omega, show (k * 4 + 2) / 4 = k by omega, e2]
  by_cases h1 : i = k * 4 + 1
  · subst h1
    simp [ccell, qcell, show k * 4 + 1 < (k + 1) * 4 by omega, show (k * 4 + 1) % 4 = 1 by omega, show (k * 4 + 1) / 4 = k by omega, e1]
  by_cases h0 : i = k * 4
  · subst h0
    simp [ccell, qcell, show k * 4 < (k + 1) * 4 by omega, e0]
  · simp only [h3, h2, h1, h0, if_false]
    unfold ccell
    by_cases hi : i < k * 4
    · rw [if_pos hi, if_pos (by omega)]
    · rw [if_neg hi, if_neg (by omega)]

theorem CatAt.step {w wr : World} {g na nb : Nat} {p1 p2 : Option Addr} {A B : List Q4} {z : Addr} {k : Nat} (h : CatAt w wr g na nb p1 p2 A B z k) {q : Q4} {x0 x1 x2 x3 : Nat} (hk : k < na + nb) (hq : nth (A ++ B) k = q)
    (e0 : q.at 0 = x0) (e1 : q.at 1 = x1) (e2 : q.at 2 = x2) (e3 : q.at 3 = x3) :
    CatAt w ((((wr.setCell ⟨g, k * 4, none⟩ (.int .u8 x0)).setCell ⟨g, k * 4 + 1, none⟩ (.int .u8 x1)).setCell ⟨g, k * 4 + 2, none⟩ (.int .u8 x2)).setCell ⟨g, k * 4 + 3, none⟩ (.int .u8 x3)) g na nb p1 p2 A B z (k + 1) := by
  subst hq
  have hl0 := h.low
  have z0 := World.block_lt_of_cell? wr _ h.laid.1
  refine ⟨ccell_step h.row e0 e1 e2 e3, h.qa.other fun a ha => set4_block _ _ _ _ _ _ _ _ _ _ _ ?_, h.qb.other fun a ha => set4_block _ _ _ _ _ _ _ _ _ _ _ ?_, ?_, h.low, ?_, h.base, h.two⟩
  · have := h.low a (.inl ha); omega
  · have := h.low a (.inr ha); omega
  · have ht := h.two
    exact ⟨(World.cell?_of_block (set4_block _ _ _ _ _ _ _ _ _ _ _ (by simp only; omega))).trans h.laid.1, (World.cell?_of_block (set4_block _ _ _ _ _ _ _ _ _ _ _ (by simp only; omega))).trans h.laid.2⟩
  · have hb := h.base
    exact (((h.below.setCell (p := ⟨g, k * 4, none⟩) hb _).setCell (p := ⟨g, k * 4 + 1, none⟩) hb _).setCell (p := ⟨g, k * 4 + 2, none⟩) hb _).setCell (p := ⟨g, k * 4 + 3, none⟩) hb _

set_option maxHeartbeats 20000000 in
set_option maxRecDepth 20000 in
theorem law3 (w : World) (pa pb : Option Addr) (ca cb na nb : Nat) (A B : List Q4) (z : Addr) (hz : Laid w z) (hA : A.length = na) (hB : B.length = nb) (hna : na ≤ 9223372036854775807) (hnb : nb ≤ 9223372036854775807)
    (ha : Raw w pa A) (hb : Raw w pb B) : Calls Tryd.prog 3 #[.slice pa na ca, .slice pb nb cb] w (LawPost w) := by
  have hnil := neq_nil
  go_enter Tryd.func3, Tryd.ntmps3
  go_wp2_with fail
  refine (zzBytes5 w pa pb na nb ca cb hna hnb).mono ?_
  rintro e w1 ⟨⟨b, rfl⟩, hw⟩
  subst w1
  cases b with
  | false =>
    go_wp2
    go_ret
    exact ⟨rfl, Below.refl _ _⟩
  | true =>
  by_cases h1 : (131072 : Int) < (na : Int)
  · go_wp2
    go_ret
    exact ⟨rfl, Below.refl _ _⟩
  by_cases h2 : (131072 : Int) < (nb : Int)
  · go_wp2
    go_ret
    exact ⟨rfl, Below.refl _ _⟩
  go_upto_if 27 with fail
  go_cut [0] (fun v wx => Hid (Mine w wx na A v))
  case first =>
    cases pa with
    | none =>
      go_wp2
      go_meet
      case rel =>
        have := ha.nil rfl
        subst this
        exact ⟨none, _, rfl, ⟨fun q hq => by simp at hq, fun _ => rfl, fun a h => by cases h⟩, Below.refl _ _⟩
    | some ad =>
      obtain ⟨w1, hw1⟩ : ∃ w1, w.alloc (.cells (madeCells #[.int .u8 0, .int .u8 0, .int .u8 0, .int .u8 0] (na * 4)) 24) = w1 := ⟨_, rfl⟩
      have hmk := made_quads w na (by omega)
      obtain ⟨g, hg⟩ : ∃ g, w.heap.size = g := ⟨_, rfl⟩
      have b1 : Below w.heap.size w w1 := by rw [← hw1]; exact (Below.refl _ _).alloc (Nat.le_refl _) _
      have r1 : Hid (∃ f, w1.rowIs g 24 (na * 4) f) := ⟨_, by rw [← hw1, ← hg]; exact rowIs_made_any w _ _ 24⟩
      rw [hw1, hg] at hmk
      have HA := ha.grown b1
      obtain ⟨f, hf⟩ := r1.out
      go_wp2_with (refine wpList_copy4 w1 rfl (.tmp 31) (.tmp 32) rfl g na na (some ad) ca rfl rfl A hA f hf (fun j hj => by obtain ⟨x, e, _, h⟩ := HA.src j (by omega); exact ⟨x, e, h⟩) (fun h => by cases h) ?_; intro w2 hr2 hg2)
      go_meet
      case rel => exact mine_of_copy ha.ok hA (Below.refl _ _) b1 hg hr2 hg2
  case rest =>
    obtain ⟨p1, c1, rfl, QA, bel⟩ := hcut.out
    have HZ := hz.grown bel
    have HBB := hb.grown bel
    clear hcut
    go_upto_if 36 with fail
    go_cut [1] (fun v wx => Hid (Mine wc wx nb B v))
    case first =>
      cases pb with
      | none =>
        go_wp2
        go_meet
        case rel =>
          have := hb.nil rfl
          subst this
          exact ⟨none, _, rfl, ⟨fun q hq => by simp at hq, fun _ => rfl, fun a h => by cases h⟩, Below.refl _ _⟩
      | some ad =>
        obtain ⟨w1, hw1⟩ : ∃ w1, wc.alloc (.cells (madeCells #[.int .u8 0, .int .u8 0, .int .u8 0, .int .u8 0] (nb * 4)) 24) = w1 := ⟨_, rfl⟩
        have hmk := made_quads wc nb (by omega)
        obtain ⟨g, hg⟩ : ∃ g, wc.heap.size = g := ⟨_, rfl⟩
        have b1 : Below wc.heap.size wc w1 := by rw [← hw1]; exact (Below.refl _ _).alloc (Nat.le_refl _) _
        have r1 : Hid (∃ f, w1.rowIs g 24 (nb * 4) f) := ⟨_, by rw [← hw1, ← hg]; exact rowIs_made_any wc _ _ 24⟩
        rw [hw1, hg] at hmk
        have HA := HBB.grown b1
        obtain ⟨f, hf⟩ := r1.out
        go_wp2_with (refine wpList_copy4 w1 rfl (.tmp 40) (.tmp 41) rfl g nb nb (some ad) cb rfl rfl B hB f hf (fun j hj => by obtain ⟨x, e, _, h⟩ := HA.src j (by omega); exact ⟨x, e, h⟩) (fun h => by cases h) ?_; intro w2 hr2 hg2)
        go_meet
        case rel => exact mine_of_copy hb.ok hB (Below.refl _ _) b1 hg hr2 hg2
    case rest =>
      obtain ⟨p2, c2, rfl, QB, bel2⟩ := hcut.out
      clear hcut
      have HZ2 := HZ.grown bel2
      have QA2 := QA.grown bel2
      have bel3 := bel.trans (bel2.mono bel.size)
      have QB2 := QB
      clear bel bel2 HZ QA HBB ha hb hz hnil QB
      obtain ⟨w0, hw0⟩ : ∃ w0, wc.alloc (.cells (madeCells #[.int .u8 0, .int .u8 0, .int .u8 0, .int .u8 0] ((na + nb) * 4)) 24) = w0 := ⟨_, rfl⟩
      have hmk := made_quads wc (na + nb) (by omega)
      obtain ⟨g, hg⟩ : ∃ g, wc.heap.size = g := ⟨_, rfl⟩
      have b0 : Below wc.heap.size wc w0 := by rw [← hw0]; exact (Below.refl _ _).alloc (Nat.le_refl _) _
      have HC0 : Hid (CatAt w w0 g na nb p1 p2 A B z 0) := by
        refine ⟨?_, QA2.grown b0, QB2.grown b0, HZ2.grown b0, ?_, bel3.trans (b0.mono bel3.size), by rw [← hg]; exact bel3.size, by have := World.block_lt_of_cell? wc _ HZ2.2; simp only at this; omega⟩
        · rw [← hw0, ← hg]; exact (rowIs_made_any wc _ _ 24).congr (fun i _ => by rw [zero4]; simp [ccell])
        · intro a ha
          rw [← hg]
          rcases ha with ha | ha
          · obtain ⟨g', e, hr⟩ := QA2.row a ha
            rw [e]; exact hr.lt
          · obtain ⟨g', e, hr⟩ := QB2.row a ha
            rw [e]; exact hr.lt
      rw [hw0, hg, show ((na + nb : Nat) : Int) = (na : Int) + (nb : Int) by omega] at hmk
      clear hw0 b0 HZ2 QA2 QB2 bel3
      go_wp2
      go_loopw [8] (fun i wr => ∃ k : Nat, k ≤ na ∧ i = .int .i64 k ∧ Hid (CatAt w wr g na nb p1 p2 A B z k)) (fun i _ => na - (intOf i).toNat)
      case atStart => exact ⟨0, Nat.zero_le _, rfl, HC0⟩
      case round =>
        obtain ⟨k, hk, rfl, HC⟩ := hrel
        clear HC0
        by_cases hlt : k < na
        · obtain ⟨hR, hQA, hQB, hz, hpg, hbel, hwg, hg1⟩ := HC.out
          obtain ⟨gq, rfl, hgq, hcell⟩ := hQA.at (i := k) (by omega)
          have c0 := hcell 0 (by omega)
          have c1 := hcell 1 (by omega)
          have c2 := hcell 2 (by omega)
          have c3 := hcell 3 (by omega)
          rw [Nat.add_zero] at c0
          obtain ⟨x0, e0⟩ : ∃ x0, ((nth A k).at 0 : Nat) = x0 := ⟨_, rfl⟩
          obtain ⟨x1, e1⟩ : ∃ x1, ((nth A k).at 1 : Nat) = x1 := ⟨_, rfl⟩
          obtain ⟨x2, e2⟩ : ∃ x2, ((nth A k).at 2 : Nat) = x2 := ⟨_, rfl⟩
          obtain ⟨x3, e3⟩ : ∃ x3, ((nth A k).at 3 : Nat) = x3 := ⟨_, rfl⟩
          rw [e0] at c0
          rw [e1] at c1
          rw [e2] at c2
          rw [e3] at c3
          have HX := HC.out.step (k := k) (by omega) (nth_left (by omega)) e0 e1 e2 e3
          have HX : Hid _ := HX
          have r0 := hR.cell (i := k * 4) (by omega)
          have r1 := hR.cell (i := k * 4 + 1) (by omega)
          have r2 := hR.cell (i := k * 4 + 2) (by omega)
          have r3 := hR.cell (i := k * 4 + 3) (by omega)
          have f0 := hR.frozen (k * 4)
          have f1 := hR.frozen (k * 4 + 1)
          have f2 := hR.frozen (k * 4 + 2)
          have f3 := hR.frozen (k * 4 + 3)
          have hlt' : (k : Int) < (na : Int) := by omega
          clear HC hR hQA hQB hz hbel hcell e0 e1 e2 e3
          go_wp2
          go_roundw
          case rel => exact ⟨k + 1, by omega, by go_num, HX⟩
          case measure => simp [intOf]; omega
        · obtain rfl : k = na := by omega
          clear hmk
          go_wp2
          go_loopw [9] (fun i wr => ∃ j : Nat, j ≤ nb ∧ i = .int .i64 j ∧ Hid (CatAt w wr g k nb p1 p2 A B z (k + j))) (fun i _ => nb - (intOf i).toNat)
          case atStart => exact ⟨0, Nat.zero_le _, rfl, HC⟩
          case round =>
            obtain ⟨j, hj, rfl, HD⟩ := hrel
            clear HC
            by_cases hlt' : j < nb
            · obtain ⟨hR, hQA, hQB, hz, hpg, hbel, hwg, hg1⟩ := HD.out
              obtain ⟨gq, rfl, hgq, hcell⟩ := hQB.at (i := j) (by omega)
              have c0 := hcell 0 (by omega)
              have c1 := hcell 1 (by omega)
              have c2 := hcell 2 (by omega)
              have c3 := hcell 3 (by omega)
              rw [Nat.add_zero] at c0
              obtain ⟨x0, e0⟩ : ∃ x0, ((nth B j).at 0 : Nat) = x0 := ⟨_, rfl⟩
              obtain ⟨x1, e1⟩ : ∃ x1, ((nth B j).at 1 : Nat) = x1 := ⟨_, rfl⟩
              obtain ⟨x2, e2⟩ : ∃ x2, ((nth B j).at 2 : Nat) = x2 := ⟨_, rfl⟩
              obtain ⟨x3, e3⟩ : ∃ x3, ((nth B j).at 3 : Nat) = x3 := ⟨_, rfl⟩
              rw [e0] at c0
              rw [e1] at c1
              rw [e2] at c2
              rw [e3] at c3
              have HX := HD.out.step (k := k + j) (by omega) (by rw [← hA]; exact nth_right) e0 e1 e2 e3
              have HX : Hid _ := HX
              have r0 := hR.cell (i := (k + j) * 4) (by omega)
              have r1 := hR.cell (i := (k + j) * 4 + 1) (by omega)
              have r2 := hR.cell (i := (k + j) * 4 + 2) (by omega)
              have r3 := hR.cell (i := (k + j) * 4 + 3) (by omega)
              have f0 := hR.frozen ((k + j) * 4)
              have f1 := hR.frozen ((k + j) * 4 + 1)
              have f2 := hR.frozen ((k + j) * 4 + 2)
              have f3 := hR.frozen ((k + j) * 4 + 3)
              have hlt'' : (j : Int) < (nb : Int) := by omega
              clear HD hR hQA hQB hz hbel hcell e0 e1 e2 e3
              go_wp2
              go_roundw
              case rel => exact ⟨j + 1, by omega, by go_num, HX⟩
              case measure => simp [intOf]; omega
            · obtain rfl : j = nb := by omega
              obtain ⟨hR, hQA, hQB, hz, hpg, hbel, hwg, hg1⟩ := HD.out
              clear HD
              have hAB : (A ++ B).length = k + j := by simp [hA, hB]
              have hQC : Quads wr (some ⟨g, 0, none⟩) (A ++ B) := by
                refine ⟨fun q hq => ?_, (fun h => by cases h), fun a ha => ?_⟩
                · rcases List.mem_append.1 hq with h | h
                  · exact hQA.ok q h
                  · exact hQB.ok q h
                · cases ha
                  exact ⟨g, rfl, by rw [hAB, Nat.mul_comm]; exact hR.congr (fun i hi => by simp [ccell, hi])⟩
              clear hR hpg hwg
              go_wp2_with fail
              refine (from4 wr p1 c1 k A hQA hA (by omega) z hz).mono ?_
              rintro e w2 ⟨B1, G1, rfl, hb1, hg1, bel1⟩
              rw [hA] at hb1 hg1
              have z2 := hz.grown bel1
              have qa2 := hQA.grown bel1
              have qb2 := hQB.grown bel1
              have qc2 := hQC.grown bel1
              have w2b := hbel.trans (bel1.mono hbel.size)
              clear bel1 hz hQA hQB hQC hbel
              go_wp2_with fail
              refine (addrsString w2 B1 G1 k A qa2.ok hA (by omega) z z2 hb1 hg1).mono ?_
              rintro e w3 ⟨rfl, H⟩
              have z3 := z2.grown H.out
              have qa3 := qa2.grown H.out
              have qb3 := qb2.grown H.out
              have qc3 := qc2.grown H.out
              have w3b := w2b.trans (H.out.mono w2b.size)
              clear H z2 qa2 qb2 qc2 w2b hb1 hg1
              go_wp2_with fail
              refine (from4 w3 p2 c2 j B qb3 hB (by omega) z z3).mono ?_
              rintro e w4 ⟨B2, G2, rfl, hb1, hg1, bel1⟩
              rw [hB] at hb1 hg1
              have z4 := z3.grown bel1
              have qa4 := qa3.grown bel1
              have qb4 := qb3.grown bel1
              have qc4 := qc3.grown bel1
              have w4b := w3b.trans (bel1.mono w3b.size)
              clear bel1 z3 qa3 qb3 qc3 w3b
              go_wp2_with fail
              refine (addrsString w4 B2 G2 j B qb4.ok hB (by omega) z z4 hb1 hg1).mono ?_
              rintro e w5 ⟨rfl, H⟩
              have z5 := z4.grown H.out
              have qa5 := qa4.grown H.out
              have qc5 := qc4.grown H.out
              have w5b := w4b.trans (H.out.mono w4b.size)
              clear H z4 qa4 qb4 qc4 w4b hb1 hg1
              go_wp2_with fail
              refine (from4 w5 (some ⟨g, 0, none⟩) (k + j) (k + j) (A ++ B) qc5 hAB (by omega) z z5).mono ?_
              rintro e w6 ⟨B3, G3, rfl, hb1, hg1, bel1⟩
              rw [hAB] at hb1 hg1
              have z6 := z5.grown bel1
              have qa6 := qa5.grown bel1
              have qc6 := qc5.grown bel1
              have w6b := w5b.trans (bel1.mono w5b.size)
              clear bel1 z5 qa5 qc5 w5b
              go_wp2_with fail
              refine (addrsString w6 B3 G3 (k + j) (A ++ B) qc6.ok hAB (by omega) z z6 hb1 hg1).mono ?_
              rintro e w7 ⟨rfl, H⟩
              have qa7 := qa6.grown H.out
              have w7b := w6b.trans (H.out.mono w6b.size)
              clear H z6 qa6 qc6 w6b hb1 hg1
              have hS := zzSpell w7 p1 c1 A qa7 (by omega)
              rw [hA] at hS
              have HCAT : Hid (¬ k = 0 → ¬ j = 0 → strOf (spell (A ++ B)) = strOf (spell A) ++ (⟨#[44]⟩ : ByteArray) ++ strOf (spell B)) := by
                intro hk0 hj0
                rw [spell_append (by intro h; rw [h] at hA; exact hk0 hA.symm) (by intro h; rw [h] at hB; exact hj0 hB.symm)]
                exact strOf_cat _ _
              have HNA : Hid (k = 0 → strOf (spell (A ++ B)) = strOf (spell B)) := by
                intro h
                obtain rfl : A = [] := List.eq_nil_of_length_eq_zero (by omega)
                rfl
              have HNB : Hid (j = 0 → strOf (spell (A ++ B)) = strOf (spell A)) := by
                intro h
                obtain rfl : B = [] := List.eq_nil_of_length_eq_zero (by omega)
                rw [List.append_nil]
              have hsa : (strOf (spell A)).size ≤ 4194304 := strOf_small (by omega)
              have hsb : (strOf (spell B)).size ≤ 4194304 := strOf_small (by omega)
              have hs1 : (⟨#[44]⟩ : ByteArray).size = 1 := rfl
              have hs2 : (strOf (spell A) ++ (⟨#[44]⟩ : ByteArray)).size = (strOf (spell A)).size + 1 := by rw [ByteArray.size_append]; rfl
              generalize strOf (spell (A ++ B)) = sab at *
              generalize strOf (spell A) = sa at *
              generalize strOf (spell B) = sb at *
              by_cases hk0 : k = 0
              · have e := HNA.out hk0
                subst e
                subst hk0
                go_wp2_with fail
                refine hS.mono ?_
                rintro e w8 ⟨rfl, H⟩
                have HB : Hid (Below w.heap.size w w8) := w7b.trans (H.out.mono w7b.size)
                clear H w7b hS qa7
                go_wp2
                go_ret
                exact ⟨by simp, HB.out⟩
              · have hk0' : ((k : Int) == 0) = false := by rw [beq_eq_false_iff_ne]; omega
                by_cases hj0 : j = 0
                · have e := HNB.out hj0
                  subst e
                  subst hj0
                  go_wp2_with fail
                  refine hS.mono ?_
                  rintro e w8 ⟨rfl, H⟩
                  have HB : Hid (Below w.heap.size w w8) := w7b.trans (H.out.mono w7b.size)
                  clear H w7b hS qa7
                  go_wp2
                  go_ret
                  exact ⟨by simp, HB.out⟩
                · have e := HCAT.out hk0 hj0
                  rw [e]
                  have hj0' : ((j : Int) == 0) = false := by rw [beq_eq_false_iff_ne]; omega
                  clear e
                  go_wp2_with fail
                  refine hS.mono ?_
                  rintro e w8 ⟨rfl, H⟩
                  have HB : Hid (Below w.heap.size w w8) := w7b.trans (H.out.mono w7b.size)
                  clear H w7b hS qa7
                  go_wp2
                  go_ret
                  exact ⟨by simp, HB.out⟩

end Go.Proofs.Qxb6627195aDoor
