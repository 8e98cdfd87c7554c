/-
  Seat b6627195aD: from the row's own reading of an argument, and of the three listed variables, to what the walks are told.
-/
import Derived.Test.Qxb6627195aDoorLawA
import Derived.ProofKit
import Derived.LaidMore
import Derived.OpenShut
import Derived.Deep.Slices
namespace Go.Proofs.Qxb6627195aDoor
open Go.ChangeShapes Go.WideShapes Go.ChangeAt Go.RowKit Go.Deep
set_option linter.unusedSimpArgs false
set_option linter.unusedVariables false

theorem cells5 : Tryd.prog.cellsOf 5 = 1 := by kernel_rfl
theorem cells24 : Tryd.prog.cellsOf 24 = 4 := by kernel_rfl

section
variable {H : Type} {enc : TypeId × Value → H} {W : World}

theorem byte_of {k : Int} (h : (Lit.int .u8 k).wf = true) : ∃ n : Nat, k = n ∧ n < 256 := by
  have : IntKind.u8.min ≤ k ∧ k ≤ IntKind.u8.max := by simpa [Lit.wf] using h
  have e1 : IntKind.u8.min = 0 := by decide
  have e2 : IntKind.u8.max = 255 := by decide
  rw [e1, e2] at this
  exact ⟨k.toNat, by omega, by omega⟩

theorem quad_of_trod {n : Nat} {cs : List Value} {x : DataW H × List MemPlace} {a : Addr} (hc : W.cells? 0 a 4 = some cs) (h : DataW.trod enc Tryd.prog W 0 (fun _ => true) true n 24 cs = some x) :
    ∃ q : Q4, q.Ok ∧ a.spot = none ∧ ∀ k, k < 4 → W.cell? ⟨a.block, a.off + k, none⟩ = some (.int .u8 ((q.at k : Nat) : Int)) := by
  obtain ⟨_, hlen, hcell⟩ := World.cells?_some hc
  obtain ⟨xs, k, hk, hxy, _, hxl, hf⟩ := DataW.trod_array Tryd.underlying24 h
  match xs, hxl, cs, hlen with
  | [y0, y1, y2, y3], _, [v0, v1, v2, v3], _ =>
    have g0 := hf 0 (by decide)
    have g1 := hf 1 (by decide)
    have g2 := hf 2 (by decide)
    have g3 := hf 3 (by decide)
    simp [cells5] at g0 g1 g2 g3
    obtain ⟨n0, e0, _, w0⟩ := DataW.trod_int Tryd.underlying5 g0
    obtain ⟨n1, e1, _, w1⟩ := DataW.trod_int Tryd.underlying5 g1
    obtain ⟨n2, e2, _, w2⟩ := DataW.trod_int Tryd.underlying5 g2
    obtain ⟨n3, e3, _, w3⟩ := DataW.trod_int Tryd.underlying5 g3
    simp at e0 e1 e2 e3
    subst e0 e1 e2 e3
    obtain ⟨m0, rfl, l0⟩ := byte_of w0
    obtain ⟨m1, rfl, l1⟩ := byte_of w1
    obtain ⟨m2, rfl, l2⟩ := byte_of w2
    obtain ⟨m3, rfl, l3⟩ := byte_of w3
    have h0 := hcell 0 (by omega)
    have h1 := hcell 1 (by omega)
    have h2 := hcell 2 (by omega)
    have h3 := hcell 3 (by omega)
    have hsp : a.spot = none := by simpa [Addr.add] using World.cell?_spot h0
    obtain ⟨b, off, sp⟩ := a
    simp at hsp
    subst hsp
    rw [add_plain] at h0 h1 h2 h3
    refine ⟨⟨m0, m1, m2, m3⟩, ⟨l0, l1, l2, l3⟩, rfl, fun k hk => ?_⟩
    have : k = 0 ∨ k = 1 ∨ k = 2 ∨ k = 3 := by omega
    rcases this with rfl | rfl | rfl | rfl
    · simpa [Q4.at] using h0
    · simpa [Q4.at] using h1
    · simpa [Q4.at] using h2
    · simpa [Q4.at] using h3

theorem raw_of_trod {n : Nat} {cs : List Value} {x : DataW H × List MemPlace} (h : DataW.trod enc Tryd.prog W 0 (fun _ => true) true n 22 cs = some x) :
    ∃ a cap Q, cs = [.slice a (List.length Q) cap] ∧ Raw W a Q ∧ Q.length ≤ 9223372036854775807 := by
  rcases open_slice Tryd.underlying22 h with ⟨hcs, _⟩ | ⟨a, len, cap, m, n', D, Pl, hcs, _, hl, hm, hmm, _, hel⟩
  · exact ⟨none, 0, [], hcs, ⟨fun q hq => by simp at hq, fun _ => rfl, fun j hj => by simp at hj⟩, by simp⟩
  · simp only [if_true] at hmm
    subst hmm
    rw [cells24] at hel
    have each : ∀ i, i < len → ∃ (q : Q4), q.Ok ∧ (a.add (i * 4)).spot = none ∧ ∀ k, k < 4 → W.cell? ⟨(a.add (i * 4)).block, (a.add (i * 4)).off + k, none⟩ = some (.int .u8 ((q.at k : Nat) : Int)) := by
      intro i hi
      obtain ⟨cs', h1, h2⟩ := hel i (by omega)
      exact quad_of_trod h1 h2
    have inh : Inhabited Q4 := ⟨⟨0, 0, 0, 0⟩⟩
    obtain ⟨q, hq⟩ := choose_lt each
    have hLl : ((List.range len).map q).length = len := by simp
    unfold maxLen at hm
    refine ⟨some a, _, (List.range len).map q, by rw [hLl]; exact hcs, ⟨?_, (fun h => by cases h), ?_⟩, by omega⟩
    · intro x hx
      obtain ⟨i, hi, rfl⟩ := List.mem_map.1 hx
      exact (hq i (List.mem_range.1 hi)).1
    · intro j hj
      rw [hLl] at hj
      have hi : j / 4 < len := by omega
      obtain ⟨b, off, sp⟩ := a
      have hsp : sp = none := by simpa [Addr.add] using (hq 0 (by omega)).2.1
      subst hsp
      have hc := (hq (j / 4) hi).2.2 (j % 4) (by omega)
      rw [add_plain] at hc
      simp only at hc
      refine ⟨_, rfl, ?_, ?_⟩
      · exact World.block_lt_of_cell? W ⟨b, off + j / 4 * 4 + j % 4, none⟩ hc
      · rw [add_plain, show off + j = off + j / 4 * 4 + j % 4 by omega, hc]
        unfold qcell nth
        simp [hi]
end

/-- What the row says is laid (the two rows say the same). -/
abbrev laid3 : List (String × DataW Unit) := Rows.fnAddressesStringJoinsAtAnyCutRow.laid

theorem t4 : (Tryd.prog.globals[0]?).map (·.type) = some 37 := by kernel_rfl
theorem t0 : (Tryd.prog.globals[1]?).map (·.type) = some 37 := by kernel_rfl
theorem cells35 : Tryd.prog.cellsOf 35 = 1 := by kernel_rfl
theorem cells37 : Tryd.prog.cellsOf 37 = 1 := by kernel_rfl

theorem laid_plain (W : World) (h : laidMetH Tryd.prog laid3 W) : ∃ z, Laid W z := by
  rw [MakeChecks.laidMetH_plain _ _ _ (by kernel_rfl)] at h
  obtain ⟨ps, ⟨g0', t0', cs0, f0, p0, q0, hg0, ht0, hv0, hd0, ⟨g1', t1', cs1, f1, p1, q1, hg1, ht1, hv1, hd1, ⟨g2', t2', cs2, f2, p2, q2, hg2, ht2, hv2, hd2, _, _⟩, _⟩, _⟩, _, _⟩ := h
  obtain rfl : g0' = 0 := Option.some.inj (hg0.symm.trans (by kernel_rfl))
  obtain rfl : g2' = 1 := Option.some.inj (hg2.symm.trans (by kernel_rfl))
  obtain rfl := Option.some.inj (t4.symm.trans ht0)
  obtain rfl := Option.some.inj (t0.symm.trans ht2)
  obtain ⟨xs, m, hm, hx, hl, hxl, hel⟩ := DataW.trod_struct Tryd.underlying37 hd0
  obtain ⟨ys, m', hm', hy, hl', hyl, hel'⟩ := DataW.trod_struct Tryd.underlying37 hd2
  have v0 := World.var?_cell hg0 hv0 0
  have v2 := World.var?_cell hg2 hv2 0
  have e0 := hel 0 _ rfl
  have e2 := hel' 0 _ rfl
  simp only [Prod.mk.injEq] at hx hy
  match xs, hxl, ys, hyl with
  | [x0], _, [y0], _ =>
    have u0 := hx.1
    have u2 := hy.1
    simp only [Rows.laid_net_netip_z4, Rows.laid_net_netip_z0, List.map_cons, List.map_nil, DataW.agg.injEq, List.cons.injEq, and_true] at u0 u2
    rw [cells37] at hl hl'
    obtain ⟨l0⟩ := cs0
    obtain ⟨l2⟩ := cs2
    match l0, hl, l2, hl' with
    | [a0], _, [a2], _ =>
      simp [cells35] at e0 e2 v0 v2
      have E0 := DataW.trod_pointer Tryd.underlying35 e0
      have E2 := DataW.trod_pointer Tryd.underlying35 e2
      rcases E0 with ⟨_, k0⟩ | ⟨z, cs', y, n, _, k0, _⟩
      · rw [k0] at u0; cases u0
      rcases E2 with ⟨k2, _⟩ | ⟨z2, cs2', y2, n2, _, _, k2, _⟩
      · simp at k0 k2
        subst k0 k2
        exact ⟨z, v0, v2⟩
      · rw [k2] at u2; cases u2
end Go.Proofs.Qxb6627195aDoor
