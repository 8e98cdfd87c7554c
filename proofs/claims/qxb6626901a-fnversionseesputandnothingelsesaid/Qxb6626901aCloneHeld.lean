/-
  Seat b6626901a: 'zzCloneHeld' (7).
-/
import Derived.Test.Qxb6626901aHeld
import Derived.Deep.RegionHeld3
namespace Go.Proofs.Qxb6626901a
open Go.RowKit
set_option linter.unusedSimpArgs false
set_option linter.unusedVariables false

theorem info34 : (Try.prog.info? 34).map (fun i => (i.zero, i.size, i.bytes)) = some (some (.agg #[.string ⟨#[]⟩, .int .u64 0, .slice none 0 0]), 3, 48) := by kernel_rfl

theorem below_cells {W w1 : World} (h : Below W.heap.size W w1) {b o : Nat} {v : Value} (hc : W.cell? ⟨b, o, none⟩ = some v) : w1.cell? ⟨b, o, none⟩ = some v :=
  (h.cell (p := ⟨b, o, none⟩) (World.block_lt_of_cell? W _ hc)).trans hc

theorem below_undrew {W w1 : World} (h : Below W.drew.heap.size W.drew w1) : Below W.heap.size W w1 := ⟨h.os, h.tape, h.output, h.size, h.block⟩

theorem Bytes.below {W w1 : World} (h : Below W.heap.size W w1) {v : Value} {d : Option (List Int)} (hb : Bytes W v d) : Bytes w1 v d := by
  cases d with
  | none => exact hb
  | some zs =>
    obtain ⟨b, off, sp, cap, rfl, hsp, hc⟩ := hb
    exact ⟨b, off, sp, cap, rfl, hsp, fun i hi => below_cells h (hc i hi)⟩

theorem ObAt.below {W w1 : World} (h : Below W.heap.size W w1) {b o : Nat} {x : Ob} (hx : ObAt W b o x) : ObAt w1 b o x := by
  obtain ⟨c0, c1, v, c2, hv⟩ := hx
  exact ⟨below_cells h c0, below_cells h c1, v, below_cells h c2, hv.below h⟩

theorem Rows3.below {W w1 : World} (h : Below W.heap.size W w1) {a : Option Addr} {L : List Ob} (hR : Rows3 W a L) : Rows3 w1 a L := by
  intro h0
  obtain ⟨b, off, rfl, hc⟩ := hR h0
  exact ⟨b, off, rfl, fun i x hx => (hc i x hx).below h⟩

theorem OwnBytes.below {W w1 : World} (h : Below W.heap.size W w1) {base : Nat} {v : Value} {d : Option (List Int)} (hb : OwnBytes W base v d) : OwnBytes w1 base v d := by
  cases d with
  | none => exact hb
  | some zs =>
    obtain ⟨g, rfl, hg, hr⟩ := hb
    exact ⟨g, rfl, hg, hr.of_block (h.block g hr.lt)⟩

/-- A store into a block of another type turns no bytes. -/
theorem OwnBytes.setCell {w : World} {base : Nat} {v : Value} {d : Option (List Int)} (h : OwnBytes w base v d) {a : Addr} {c : Array Value} {t : TypeId} {fr : Nat × Nat} (ha : w.heap[a.block]? = some (.cells c t fr)) (ht : t ≠ 5) (u : Value) : OwnBytes (w.setCell a u) base v d := by
  cases d with
  | none => exact h
  | some zs =>
    obtain ⟨g, rfl, hg, hr⟩ := h
    refine ⟨g, rfl, hg, hr.setOther ?_ u⟩
    intro e
    obtain ⟨c', hb, _⟩ := hr
    rw [e, ha] at hb
    simp only [Option.some.injEq, Obj.cells.injEq] at hb
    exact ht hb.2.1

theorem OwnBytes.mono {w : World} {base base' : Nat} {v : Value} {d : Option (List Int)} (h : OwnBytes w base v d) (hb : base' ≤ base) : OwnBytes w base' v d := by
  cases d with
  | none => exact h
  | some zs =>
    obtain ⟨g, rfl, hg, hr⟩ := h
    exact ⟨g, rfl, Nat.le_trans hb hg, hr⟩

/-- A store into a row of cells leaves it a row of as many cells of that type. -/
theorem row_setCell {w : World} {g : Nat} {c : Array Value} {t : TypeId} {fr : Nat × Nat} (h : w.heap[g]? = some (.cells c t fr)) (o : Nat) (u : Value) : (w.setCell ⟨g, o, none⟩ u).heap[g]? = some (.cells (c.setIfInBounds o u) t fr) := by
  simp [World.setCell, Array.getElem?_modify, h]

/-- The first k elements of the copy stand in block g; the rest of the block is there. -/
structure Copied (w wr : World) (g : Nat) (L : List Ob) (k : Nat) : Prop where
  below : Below w.heap.size w wr
  block : ∃ c, wr.heap[g]? = some (.cells c 34 (0, 0)) ∧ c.size = L.length * 3 ∧
    ∀ i x, i < k → L[i]? = some x → c[i * 3]? = some (.string x.key) ∧ c[i * 3 + 1]? = some (.int .u64 x.ver) ∧ ∃ v, c[i * 3 + 2]? = some v ∧ OwnBytes wr w.heap.size v x.val

theorem Copied.step {w wr w1 : World} {L : List Ob} {k : Nat} {x : Ob} {v : Value} (hC : Copied w wr w.heap.size L k) (hk : k < L.length) (hx : L[k]? = some x) (hb1 : Below wr.heap.size wr w1) (hv : OwnBytes w1 wr.heap.size v x.val) :
    Copied w (((w1.setCell ⟨w.heap.size, k * 3, none⟩ (.string x.key)).setCell ⟨w.heap.size, k * 3 + 1, none⟩ (.int .u64 x.ver)).setCell ⟨w.heap.size, k * 3 + 2, none⟩ v) w.heap.size L (k + 1) := by
  obtain ⟨c, hcb, hcs, hr⟩ := hC.block
  have hg := (Array.getElem?_eq_some_iff.1 hcb).1
  have hb : Below w.heap.size w w1 := hC.below.trans (hb1.mono hC.below.size)
  have h1 : w1.heap[w.heap.size]? = some (.cells c 34 (0, 0)) := (hb1.block _ hg).trans hcb
  have h2 := row_setCell h1 (k * 3) (.string x.key)
  have h3 := row_setCell h2 (k * 3 + 1) (.int .u64 x.ver)
  have h4 := row_setCell h3 (k * 3 + 2) v
  refine ⟨((hb.setCell (Nat.le_refl _) _).setCell (Nat.le_refl _) _).setCell (Nat.le_refl _) _, _, h4, by simp [hcs], ?_⟩
  intro i y hi hy
  by_cases e : i = k
  · subst e
    rw [hx] at hy
    obtain rfl := Option.some.inj hy
    refine ⟨?_, ?_, v, ?_, ?_⟩
    · simp [Array.getElem?_setIfInBounds, show i * 3 < c.size by omega]
    · simp [Array.getElem?_setIfInBounds, show i * 3 + 1 < c.size by omega]
    · simp [Array.getElem?_setIfInBounds, show i * 3 + 2 < c.size by omega]
    · exact (((hv.mono (Nat.le_of_lt hg)).setCell (a := ⟨w.heap.size, _, none⟩) h1 (by decide) _).setCell (a := ⟨w.heap.size, _, none⟩) h2 (by decide) _).setCell (a := ⟨w.heap.size, _, none⟩) h3 (by decide) _
  · obtain ⟨r0, r1, u, r2, hu⟩ := hr i y (by omega) hy
    refine ⟨?_, ?_, u, ?_, ?_⟩
    · rw [Array.getElem?_setIfInBounds_ne (by omega), Array.getElem?_setIfInBounds_ne (by omega), Array.getElem?_setIfInBounds_ne (by omega)]; exact r0
    · rw [Array.getElem?_setIfInBounds_ne (by omega), Array.getElem?_setIfInBounds_ne (by omega), Array.getElem?_setIfInBounds_ne (by omega)]; exact r1
    · rw [Array.getElem?_setIfInBounds_ne (by omega), Array.getElem?_setIfInBounds_ne (by omega), Array.getElem?_setIfInBounds_ne (by omega)]; exact r2
    · exact (((hu.below hb1).setCell (a := ⟨w.heap.size, _, none⟩) h1 (by decide) _).setCell (a := ⟨w.heap.size, _, none⟩) h2 (by decide) _).setCell (a := ⟨w.heap.size, _, none⟩) h3 (by decide) _

theorem Copied.rows {w wr : World} {g : Nat} {L : List Ob} (hC : Copied w wr g L L.length) : Rows3 wr (some ⟨g, 0, none⟩) L := by
  intro _
  obtain ⟨c, hcb, hcs, hr⟩ := hC.block
  refine ⟨g, 0, rfl, fun i x hx => ?_⟩
  obtain ⟨r0, r1, v, r2, hv⟩ := hr i x (List.getElem?_eq_some_iff.1 hx).1 hx
  refine ⟨?_, ?_, v, ?_, hv.bytes⟩ <;> simp [World.cell?, hcb, r0, r1, r2]

theorem run_make34 (n : Nat) (hn : n ≤ 1048576) (w : World) : (Instr.makeSlice 22 (.int .i64 (n : Int)) (.int .i64 (n : Int))).run Try.prog w =
    .ok (.slice (some ⟨w.heap.size, 0, none⟩) n n) (w.alloc (.cells (madeCells #[.string ⟨#[]⟩, .int .u64 0, .slice none 0 0] (n * 3)) 34)) := by
  obtain ⟨i, hi, hz, hs, hb⟩ := info_parts info34
  have h := run_make (P := Try.prog) w 22 34 i _ Try.underlying22 hi hz .i64 .i64 n n (by omega) (Int.le_refl _) (by rw [hb]; omega) (by omega)
  simp only [Int.toNat_natCast, hs] at h
  exact h

/-- 'zzCloneBytes' with the result's shape written out. -/
theorem clone_shape (w : World) (v : Value) (d : Option (List Int)) (h : Bytes w v d) (hl : dlen d ≤ 1048576) :
    Calls Try.prog 12 #[v] w fun e w' => ∃ av cv, e = .returned (.slice av (dlen d) cv) ∧ OwnBytes w' w.heap.size (.slice av (dlen d) cv) d ∧ Below w.heap.size w w' := by
  refine (clone_bytes w v d h hl).mono ?_
  rintro e w' ⟨v', rfl, ho, hb⟩
  obtain ⟨av, cv, rfl⟩ := ho.bytes.slice
  exact ⟨av, cv, rfl, ho, hb⟩

set_option maxHeartbeats 1000000 in
theorem cloneHeld (w : World) (L : List Ob) (a : Addr) (cap : Nat) (hL : L.length ≤ 1048576) (hR : Rows3 w (some a) L) (hS : Small L) :
    Calls Try.prog 7 #[.slice (some a) L.length cap] w fun e w' => e = .returned (.slice (some ⟨w.heap.size, 0, none⟩) L.length L.length) ∧ Hid (Copied w w' w.heap.size L L.length) := by
  have hn := fun (w : World) => Lib.run_eql_slice_nil (P := Try.prog) w 22 34 (some a) L.length cap 0 0 Try.underlying22
  have hmk := run_make34 L.length hL
  go_enter Try.func7, Try.ntmps7
  go_wp2
  go_loopw [4] (fun i wr => ∃ k : Nat, k ≤ L.length ∧ i = .int .i64 k ∧ Hid (Copied w wr w.heap.size L k)) (fun i _ => L.length - (intOf i).toNat)
  case atStart =>
    refine ⟨0, Nat.zero_le _, rfl, ⟨(Below.refl _ _).alloc (Nat.le_refl _) _, _, heap_alloc_new w _, size_madeCells _ _, fun i x h => absurd h (by omega)⟩⟩
  case round =>
    obtain ⟨k, hk, rfl, hC⟩ := hrel
    by_cases hlt : k < L.length
    · obtain ⟨b, off, ha, hc⟩ := hR (by omega)
      obtain rfl := Option.some.inj ha
      obtain ⟨x, hx⟩ : ∃ x, L[k]? = some x := ⟨_, List.getElem?_eq_getElem hlt⟩
      have hbel := hC.out.below
      obtain ⟨c0, c1, v, c2, hv⟩ := (hc k x hx).below hbel
      obtain ⟨s1, s2⟩ := hS x (List.mem_of_getElem? hx)
      obtain ⟨c, hcb, hcs, _⟩ := hC.out.block
      have hlt' : (k : Int) < (L.length : Int) := by omega
      have hg := (Array.getElem?_eq_some_iff.1 hcb).1
      have o0 : wr.cell? ⟨w.heap.size, k * 3, none⟩ = some (c[k * 3]'(by omega)) := by simp [World.cell?, hcb, show k * 3 < c.size by omega]
      have o1 : wr.cell? ⟨w.heap.size, k * 3 + 1, none⟩ = some (c[k * 3 + 1]'(by omega)) := by simp [World.cell?, hcb, show k * 3 + 1 < c.size by omega]
      have o2 : wr.cell? ⟨w.heap.size, k * 3 + 2, none⟩ = some (c[k * 3 + 2]'(by omega)) := by simp [World.cell?, hcb, show k * 3 + 2 < c.size by omega]
      generalize c[k * 3]'(by omega) = y0 at o0
      generalize c[k * 3 + 1]'(by omega) = y1 at o1
      generalize c[k * 3 + 2]'(by omega) = y2 at o2
      have f0 : wr.frozen? ⟨w.heap.size, k * 3, none⟩ = false := by simp [World.frozen?, hcb]
      have f1 : wr.frozen? ⟨w.heap.size, k * 3 + 1, none⟩ = false := by simp [World.frozen?, hcb]
      have f2 : wr.frozen? ⟨w.heap.size, k * 3 + 2, none⟩ = false := by simp [World.frozen?, hcb]
      have HX : Hid (L[k]? = some x) := hx
      have hbw : b < w.heap.size := World.block_lt_of_cell? w _ (hc k x hx).1
      have hne : ¬ b = w.heap.size := by omega
      have hne' : ¬ w.heap.size = b := by omega
      clear hx hc hmk hn hcb hcs hbel
      have HV : Hid (Bytes wr v x.val) := hv
      clear hv
      go_wp2
      go_region_held3 (fun u => u.cell? ⟨b, off + k * 3, none⟩ = some (.string x.key) ∧ u.cell? ⟨b, off + k * 3 + 1, none⟩ = some (.int .u64 x.ver) ∧ u.cell? ⟨b, off + k * 3 + 2, none⟩ = some v)
        (first | go_keep | (go_split_ands; refine ⟨?_, ?_, ?_⟩ <;> first | assumption | simp [*]))
        (first | (go_at_call 12; refine (clone_shape _ _ x.val (by exact HV.out) s2).mono ?_; rintro e w1 ⟨av, cv, rfl, hown, hb1⟩; have h0 := below_cells hb1 (by exact c0); have h1 := below_cells hb1 (by exact c1); have h2 := below_cells hb1 (by exact c2); have g0 := below_cells hb1 (b := w.heap.size) (o := k * 3) (v := y0) (by exact o0); have g1 := below_cells hb1 (b := w.heap.size) (o := k * 3 + 1) (v := y1) (by exact o1); have g2 := below_cells hb1 (b := w.heap.size) (o := k * 3 + 2) (v := y2) (by exact o2); have q0 := (hb1.frozen (p := ⟨w.heap.size, k * 3, none⟩) (by exact hg)).trans (by exact f0); have q1 := (hb1.frozen (p := ⟨w.heap.size, k * 3 + 1, none⟩) (by exact hg)).trans (by exact f1); have q2 := (hb1.frozen (p := ⟨w.heap.size, k * 3 + 2, none⟩) (by exact hg)).trans (by exact f2)))
      have R := hC.out.step hlt HX.out (below_undrew hb1) hown
      have HR := R
      clear h0 h1 h2 g0 g1 g2 q0 q1 q2 R hown hb1
      go_wp2
      go_roundw
      case rel => exact ⟨k + 1, by omega, by go_num, HR⟩
      case measure => simp [intOf]; omega
    · have hke : k = L.length := by omega
      subst hke
      clear hR
      go_wp2
      go_ret
      exact ⟨rfl, hC⟩

theorem cloneHeld_nil (w : World) (cap : Nat) : Calls Try.prog 7 #[.slice none 0 cap] w fun e w' => e = .returned (.slice none 0 0) ∧ w' = w := by
  have hn := fun (w : World) => Lib.run_eql_slice_nil (P := Try.prog) w 22 34 none 0 cap 0 0 Try.underlying22
  go_enter Try.func7, Try.ntmps7
  go_wp2
  go_ret
  exact ⟨rfl, rfl⟩

/-- 'zzCloneHeld': the same puts in new memory. -/
theorem clone_held (w : World) (a : Option Addr) (cap : Nat) (L : List Ob) (hR : Rows3 w a L) (hL : L.length ≤ 1048576) (hS : Small L) :
    Calls Try.prog 7 #[.slice a L.length cap] w fun e w' => ∃ a' c', e = .returned (.slice a' L.length c') ∧ Rows3 w' a' L ∧ Below w.heap.size w w' := by
  cases a with
  | none =>
    have h0 : L.length = 0 := by
      rcases Nat.eq_zero_or_pos L.length with h | h
      · exact h
      · obtain ⟨b, off, hn, _⟩ := hR h; cases hn
    rw [h0]
    refine (cloneHeld_nil w cap).mono ?_
    rintro e w' ⟨rfl, rfl⟩
    exact ⟨none, 0, rfl, hR, Below.refl _ _⟩
  | some a =>
    refine (cloneHeld w L a cap hL hR hS).mono ?_
    rintro e w' ⟨rfl, hC⟩
    exact ⟨_, _, rfl, hC.out.rows, hC.out.below⟩

end Go.Proofs.Qxb6626901a
