/-
  Seat b6627195aD: the walk of 'FnAddressesStringReadsBackAndTellsApart' (4).
-/
import Derived.Test.Qxb6627195aDoorCopy
import Derived.Test.Qxb6627195aDoorBytes
import Derived.Test.Qxb6627195aDoorJoin
import Derived.Test.Qxb6627195aDoorSame
import Derived.Test.Qxb6627195aDoorRead
namespace Go.Proofs.Qxb6627195aDoor
open Go.RowKit
set_option linter.unusedSimpArgs false
set_option linter.unusedVariables false

/-- A list of addresses as it came in. -/
structure Raw (w : World) (p : Option Addr) (Q : List Q4) : Prop where
  ok : ∀ q ∈ Q, q.Ok
  nil : p = none → Q = []
  src : ∀ j, j < Q.length * 4 → ∃ ad, p = some ad ∧ ad.block < w.heap.size ∧ w.cell? (ad.add j) = some (qcell Q j)

theorem Raw.grown {w w' : World} {p : Option Addr} {Q : List Q4} (h : Raw w p Q) (hb : Below w.heap.size w w') : Raw w' p Q :=
  ⟨h.ok, h.nil, fun j hj => by
    obtain ⟨ad, e, hl, hc⟩ := h.src j hj
    exact ⟨ad, e, Nat.lt_of_lt_of_le hl hb.size, (hb.cell (World.block_lt_of_cell? w _ hc)).trans hc⟩⟩

def LawPost (w : World) (e : Ending) (w' : World) : Prop := e = .returned (.bool true) ∧ Below w.heap.size w w'

/-- The copy at the head. -/
def Mine (w wx : World) (n : Nat) (Q : List Q4) (v : Value) : Prop := ∃ p c, v = .slice p n c ∧ Quads wx p Q ∧ Below w.heap.size w wx

theorem neq_nil (p : Option Addr) (n c : Nat) (w : World) : (binOp .neq 22 (.slice p n c) (.slice none 0 0)).run Tryd.prog w = .ok (.bool (!p.isNone)) w := run_neq_slice_nil_any w 22 24 p n c 0 0 Tryd.underlying22

theorem mine_of_copy {w w1 w2 w3 : World} {n g : Nat} {Q : List Q4} (hok : ∀ q ∈ Q, q.Ok) (hn : Q.length = n) (b1 : Below w.heap.size w w1) (b2 : Below w1.heap.size w1 w2) (hg : w1.heap.size = g) (hr : w3.rowIs g 24 (n * 4) (qcell Q)) (hgr : w2.grownBy w3 (some g)) :
    Mine w w3 n Q (.slice (some ⟨g, 0, none⟩) n n) := by
  refine ⟨_, _, rfl, ⟨hok, (fun h => by cases h), fun a ha => ?_⟩, ?_⟩
  · cases ha
    exact ⟨g, rfl, by rw [hn, Nat.mul_comm]; exact hr⟩
  · exact (b1.trans (b2.mono b1.size)).grown hgr (Nat.le_trans b1.size b2.size) (by intro k hk; cases hk; rw [← hg]; exact b1.size)

set_option maxHeartbeats 2000000 in
set_option maxRecDepth 20000 in
theorem law4 (w : World) (pa pb : Option Addr) (ca cb na nb : Nat) (A B : List Q4) (z : Addr) (hz : Laid w z) (hA : A.length = na) (hB : B.length = nb) (hna : na ≤ 9223372036854775807) (hnb : nb ≤ 9223372036854775807)
    (ha : Raw w pa A) (hb : Raw w pb B) : Calls Tryd.prog 4 #[.slice pa na ca, .slice pb nb cb] w (LawPost w) := by
  have hnil := neq_nil
  go_enter Tryd.func4, Tryd.ntmps4
  go_wp2_with fail
  refine (zzBytes9 w pa pb na nb ca cb hna hnb).mono ?_
  rintro e w1 ⟨⟨b, rfl⟩, hw⟩
  subst w1
  cases b with
  | false =>
    go_wp2
    go_ret
    exact ⟨rfl, Below.refl _ _⟩
  | true =>
  by_cases h1 : (131072 : Int) < (na : Int)
  · go_wp2
    go_ret
    exact ⟨rfl, Below.refl _ _⟩
  by_cases h2 : (131072 : Int) < (nb : Int)
  · go_wp2
    go_ret
    exact ⟨rfl, Below.refl _ _⟩
  go_upto_if 22 with fail
  go_cut [0] (fun v wx => Hid (Mine w wx na A v))
  case first =>
    cases pa with
    | none =>
      go_wp2
      go_meet
      case rel =>
        have := ha.nil rfl
        subst this
        exact ⟨none, _, rfl, ⟨fun q hq => by simp at hq, fun _ => rfl, fun a h => by cases h⟩, Below.refl _ _⟩
    | some ad =>
      obtain ⟨w1, hw1⟩ : ∃ w1, w.alloc (.cells (madeCells #[.int .u8 0, .int .u8 0, .int .u8 0, .int .u8 0] (na * 4)) 24) = w1 := ⟨_, rfl⟩
      have hmk := made_quads w na (by omega)
      obtain ⟨g, hg⟩ : ∃ g, w.heap.size = g := ⟨_, rfl⟩
      have b1 : Below w.heap.size w w1 := by rw [← hw1]; exact (Below.refl _ _).alloc (Nat.le_refl _) _
      have r1 : Hid (∃ f, w1.rowIs g 24 (na * 4) f) := ⟨_, by rw [← hw1, ← hg]; exact rowIs_made_any w _ _ 24⟩
      rw [hw1, hg] at hmk
      have HA := ha.grown b1
      obtain ⟨f, hf⟩ := r1.out
      go_wp2_with (refine wpList_copy4 w1 rfl (.tmp 26) (.tmp 27) rfl g na na (some ad) ca rfl rfl A hA f hf (fun j hj => by obtain ⟨x, e, _, h⟩ := HA.src j (by omega); exact ⟨x, e, h⟩) (fun h => by cases h) ?_; intro w2 hr2 hg2)
      go_meet
      case rel => exact mine_of_copy ha.ok hA (Below.refl _ _) b1 hg hr2 hg2
  case rest =>
    obtain ⟨p1, c1, rfl, QA, bel⟩ := hcut.out
    have HZ := hz.grown bel
    have HBB := hb.grown bel
    clear hcut
    go_upto_if 31 with fail
    go_cut [1] (fun v wx => Hid (Mine wc wx nb B v))
    case first =>
      cases pb with
      | none =>
        go_wp2
        go_meet
        case rel =>
          have := hb.nil rfl
          subst this
          exact ⟨none, _, rfl, ⟨fun q hq => by simp at hq, fun _ => rfl, fun a h => by cases h⟩, Below.refl _ _⟩
      | some ad =>
        obtain ⟨w1, hw1⟩ : ∃ w1, wc.alloc (.cells (madeCells #[.int .u8 0, .int .u8 0, .int .u8 0, .int .u8 0] (nb * 4)) 24) = w1 := ⟨_, rfl⟩
        have hmk := made_quads wc nb (by omega)
        obtain ⟨g, hg⟩ : ∃ g, wc.heap.size = g := ⟨_, rfl⟩
        have b1 : Below wc.heap.size wc w1 := by rw [← hw1]; exact (Below.refl _ _).alloc (Nat.le_refl _) _
        have r1 : Hid (∃ f, w1.rowIs g 24 (nb * 4) f) := ⟨_, by rw [← hw1, ← hg]; exact rowIs_made_any wc _ _ 24⟩
        rw [hw1, hg] at hmk
        have HA := HBB.grown b1
        obtain ⟨f, hf⟩ := r1.out
        go_wp2_with (refine wpList_copy4 w1 rfl (.tmp 35) (.tmp 36) rfl g nb nb (some ad) cb rfl rfl B hB f hf (fun j hj => by obtain ⟨x, e, _, h⟩ := HA.src j (by omega); exact ⟨x, e, h⟩) (fun h => by cases h) ?_; intro w2 hr2 hg2)
        go_meet
        case rel => exact mine_of_copy hb.ok hB (Below.refl _ _) b1 hg hr2 hg2
    case rest =>
      obtain ⟨p2, c2, rfl, QB, bel2⟩ := hcut.out
      clear hcut
      have HZ2 := HZ.grown bel2
      have QA2 := QA.grown bel2
      have bel3 := bel.trans (bel2.mono bel.size)
      clear bel bel2 HZ QA HBB ha hb hz hnil
      go_wp2_with fail
      refine (from4 wc p1 c1 na A QA2 hA (by omega) z HZ2).mono ?_
      rintro e w2 ⟨B1, G1, rfl, hb1, hg1, bel4⟩
      rw [hA] at hb1 hg1
      have HZ3 := HZ2.grown bel4
      have QA3 := QA2.grown bel4
      have QB3 := QB.grown bel4
      have bel5 := bel3.trans (bel4.mono bel3.size)
      clear bel3 bel4 HZ2 QA2 QB
      go_wp2_with fail
      refine (addrsString w2 B1 G1 na A QA3.ok hA (by omega) z HZ3 hb1 hg1).mono ?_
      rintro e w3 ⟨rfl, H⟩
      have HZ4 := HZ3.grown H.out
      have QA4 := QA3.grown H.out
      have QB4 := QB3.grown H.out
      have bel6 := bel5.trans (H.out.mono bel5.size)
      clear bel5 H HZ3 QA3 QB3 hb1 hg1
      go_wp2_with fail
      refine (from4 w3 p2 c2 nb B QB4 hB (by omega) z HZ4).mono ?_
      rintro e w4 ⟨B2, G2, rfl, hb2, hg2, bel7⟩
      rw [hB] at hb2 hg2
      have HZ5 := HZ4.grown bel7
      have QA5 := QA4.grown bel7
      have QB5 := QB4.grown bel7
      have bel8 := bel6.trans (bel7.mono bel6.size)
      clear bel6 bel7 HZ4 QA4 QB4
      go_wp2_with fail
      refine (addrsString w4 B2 G2 nb B QB5.ok hB (by omega) z HZ5 hb2 hg2).mono ?_
      rintro e w5 ⟨rfl, H⟩
      have QA6 := QA5.grown H.out
      have QB6 := QB5.grown H.out
      have bel9 := bel8.trans (H.out.mono bel8.size)
      clear bel8 H HZ5 QA5 QB5 hb2 hg2
      go_wp2_with fail
      refine (zzReads w5 p1 c1 na A QA6 hA (by omega)).mono ?_
      rintro e w6 ⟨rfl, rfl⟩
      go_wp2_with fail
      refine (zzReads w6 p2 c2 nb B QB6 hB (by omega)).mono ?_
      rintro e w7 ⟨rfl, rfl⟩
      go_wp2_with fail
      have hS := zzSame w7 p1 p2 c1 c2 A B QA6 QB6 (by omega) (by omega)
      rw [hA, hB] at hS
      refine hS.mono ?_
      rintro e w8 ⟨⟨b, rfl, hb⟩, bel10⟩
      have HB : Hid (Below w.heap.size w w8) := bel9.trans (bel10.mono bel9.size)
      have HE : Hid (b = true ↔ spell A = spell B) := by
        constructor
        · intro h; rw [hb.1 h]
        · intro h; exact hb.2 (spell_inj QA6.ok QB6.ok h)
      clear hS bel9 bel10 hb QA6 QB6
      by_cases hAB : spell A = spell B
      · obtain rfl : b = true := HE.out.2 hAB
        rw [hAB]
        go_wp2
        go_ret
        exact ⟨by simp, HB.out⟩
      · obtain rfl : b = false := by
          cases b with
          | false => rfl
          | true => exact absurd (HE.out.1 rfl) hAB
        have hne : ¬ (strOf (spell A)).toList = (strOf (spell B)).toList := by
          unfold strOf
          rw [ByteArray.toList_mk, ByteArray.toList_mk]
          exact hAB
        generalize strOf (spell A) = x at *
        generalize strOf (spell B) = y at *
        go_wp2
        go_ret
        exact ⟨by simp [hne], HB.out⟩

end Go.Proofs.Qxb6627195aDoor
