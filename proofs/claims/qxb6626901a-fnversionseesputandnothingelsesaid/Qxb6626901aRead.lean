/-
  Seat b6626901a: from the row's own reading of an argument to what the walks are told.
-/
import Derived.Test.Qxb6626901aHeld
import Derived.ProofKit
import Derived.Deep.Slices
namespace Go.Proofs.Qxb6626901a
open Go.ChangeShapes Go.WideShapes Go.ChangeAt Go.RowKit Go.Deep
set_option linter.unusedSimpArgs false
set_option linter.unusedVariables false

theorem cells5 : Try.prog.cellsOf 5 = 1 := by kernel_rfl
theorem cells34 : Try.prog.cellsOf 34 = 3 := by kernel_rfl
theorem cells9 : Try.prog.cellsOf 9 = 1 := by kernel_rfl
theorem cells23 : Try.prog.cellsOf 23 = 1 := by kernel_rfl
theorem cells29 : Try.prog.cellsOf 29 = 1 := by kernel_rfl

section
variable {H : Type} {enc : TypeId × Value → H} {W : World}

theorem bytes_of_trod {n : Nat} {cs : List Value} {x : DataW H × List MemPlace} (h : DataW.trod enc Try.prog W 0 (fun _ => true) true n 29 cs = some x) : ∃ v d, cs = [v] ∧ Bytes W v d ∧ dlen d ≤ 9223372036854775807 := by
  rcases open_ints Try.underlying29 Try.underlying5 cells5 h with ⟨hcs, _⟩ | ⟨a, len, cap, zs, hcs, _, hl, hm, hz, _, hcell, _⟩
  · exact ⟨_, none, hcs, rfl, Nat.zero_le _⟩
  · simp only [if_true] at hz
    have hlen : (zs.take len).length = len := by simp; omega
    unfold maxLen at hm
    obtain ⟨b, off, sp⟩ := a
    refine ⟨_, some (zs.take len), hcs, ⟨b, off, sp, cap, by rw [hlen], fun h0 => ?_, fun i hi => ?_⟩, by simp only [dlen]; omega⟩
    · simpa [Addr.add] using World.cell?_spot (hcell 0 (by omega))
    · have hs : sp = none := by simpa [Addr.add] using World.cell?_spot (hcell 0 (by omega))
      subst hs
      have := hcell i (by omega)
      rw [add_plain] at this
      rw [this]
      have hil : i < len := by omega
      simp [List.getD, List.getElem?_take, hil]

theorem ob_of_trod {n : Nat} {cs : List Value} {x : DataW H × List MemPlace} {a : Addr} (hc : W.cells? 0 a 3 = some cs) (h : DataW.trod enc Try.prog W 0 (fun _ => true) true n 34 cs = some x) :
    ∃ (o : Ob), a.spot = none ∧ ObAt W a.block a.off o ∧ o.key.size ≤ 9223372036854775807 ∧ dlen o.val ≤ 9223372036854775807 ∧ (Lit.int .u64 o.ver).wf = true := by
  obtain ⟨_, hlen, hcell⟩ := World.cells?_some hc
  obtain ⟨xs, k, hk, hxy, _, hxl, hf⟩ := DataW.trod_struct Try.underlying34 h
  match xs, hxl, cs, hlen with
  | [y0, y1, y2], _, [v0, v1, v2], _ =>
    have g0 := hf 0 _ rfl
    have g1 := hf 1 _ rfl
    have g2 := hf 2 _ rfl
    simp [cells9, cells23, cells29] at g0 g1 g2
    obtain ⟨s, e0, _, hs⟩ := DataW.trod_string Try.underlying9 g0
    obtain ⟨v, e1, _, hv⟩ := DataW.trod_int Try.underlying23 g1
    obtain ⟨z, d, e2, hz, hd⟩ := bytes_of_trod g2
    simp at e0 e1 e2
    subst e0 e1 e2
    have h0 := hcell 0 (by omega)
    have h1 := hcell 1 (by omega)
    have h2 := hcell 2 (by omega)
    have hsp : a.spot = none := by simpa [Addr.add] using World.cell?_spot h0
    obtain ⟨b, off, sp⟩ := a
    simp at hsp
    subst hsp
    rw [add_plain] at h0 h1 h2
    unfold maxLen at hs
    exact ⟨⟨s, v, d⟩, rfl, ⟨by simpa using h0, by simpa using h1, _, by simpa using h2, hz⟩, hs, hd, hv⟩

theorem held_of_trod {n : Nat} {cs : List Value} {x : DataW H × List MemPlace} (h : DataW.trod enc Try.prog W 0 (fun _ => true) true n 22 cs = some x) :
    ∃ a cap L, cs = [.slice a (List.length L) cap] ∧ Rows3 W a L ∧ (∀ x ∈ L, x.key.size ≤ 9223372036854775807 ∧ dlen x.val ≤ 9223372036854775807) ∧ (∀ x ∈ L, (Lit.int .u64 x.ver).wf = true) ∧ L.length ≤ 9223372036854775807 := by
  rcases open_slice Try.underlying22 h with ⟨hcs, _⟩ | ⟨a, len, cap, m, n', D, Pl, hcs, _, hl, hm, hmm, _, hel⟩
  · exact ⟨none, 0, [], hcs, fun h => absurd h (by simp), by simp, by simp, by simp⟩
  · simp only [if_true] at hmm
    subst hmm
    rw [cells34] at hel
    have each : ∀ i, i < len → ∃ (o : Ob), (a.add (i * 3)).spot = none ∧ ObAt W (a.add (i * 3)).block (a.add (i * 3)).off o ∧ o.key.size ≤ 9223372036854775807 ∧ dlen o.val ≤ 9223372036854775807 ∧ (Lit.int .u64 o.ver).wf = true := by
      intro i hi
      obtain ⟨cs', h1, h2⟩ := hel i (by omega)
      exact ob_of_trod h1 h2
    have inh : Inhabited Ob := ⟨⟨ByteArray.empty, 0, none⟩⟩
    obtain ⟨q, hq⟩ := choose_lt each
    have hLl : ((List.range len).map q).length = len := by simp
    unfold maxLen at hm
    have hmem : ∀ x ∈ (List.range len).map q, ∃ i, i < len ∧ x = q i := by
      intro x hx
      obtain ⟨i, hi, rfl⟩ := List.mem_map.1 hx
      exact ⟨i, List.mem_range.1 hi, rfl⟩
    refine ⟨some a, _, (List.range len).map q, by rw [hLl]; exact hcs, ?_, ?_, ?_, by omega⟩
    · intro h0
      obtain ⟨b, off, sp⟩ := a
      have hsp : sp = none := by simpa [Addr.add] using (hq 0 (by omega)).1
      subst hsp
      refine ⟨b, off, rfl, fun i x hx => ?_⟩
      have hi : i < len := by have := (List.getElem?_eq_some_iff.1 hx).1; omega
      have hxq : x = q i := by simpa [hi] using hx.symm
      subst hxq
      have := (hq i hi).2.1
      rw [add_plain] at this
      exact this
    · intro x hx
      obtain ⟨i, hi, rfl⟩ := hmem x hx
      exact ⟨(hq i hi).2.2.1, (hq i hi).2.2.2.1⟩
    · intro x hx
      obtain ⟨i, hi, rfl⟩ := hmem x hx
      exact (hq i hi).2.2.2.2
end
end Go.Proofs.Qxb6626901a
