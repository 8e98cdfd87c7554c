/-
  Seat b6625644a: the walk of 'FnPathExtendsParentsPath' (3).
-/
import Derived.Test.Qxb6625644aPath
import Derived.Laws.CopyOwn
import Derived.Deep.QuietTactic
import Derived.BigQuiet
import Derived.Deep.CutRange
import Derived.Deep.DeepCutAuto
namespace Go.Proofs.Qxb6625644a
open Go.RowKit
set_option linter.unusedSimpArgs false
set_option linter.unusedVariables false

def TruePost (w : World) (e : Ending) (w' : World) : Prop := e = .returned (.bool true) ∧ Below w.heap.size w w'

theorem below_drewN (w : World) (n : Nat) : Below w.heap.size w (w.drewN n) := ⟨rfl, rfl, rfl, Nat.le_refl _, fun _ _ => rfl⟩

theorem info21 : (Try.prog.info? 21).map (fun i => (i.zero, i.size, i.bytes)) = some (some (.int .i32 0), 1, 4) := by kernel_rfl
theorem size21 : (Try.prog.info? 21).map (·.size) = some 1 := by kernel_rfl

theorem made_ints (w : World) (n : Nat) (hn : n ≤ 4294967296) : (Instr.makeSlice 22 (.int .i64 (n : Int)) (.int .i64 (n : Int))).run Try.prog w = .ok (.slice (some ⟨w.heap.size, 0, none⟩) n n) (w.alloc (.cells (madeCells #[.int .i32 0] n) 21)) :=
  run_make_row' 22 21 (.int .i32 0) 4 Try.underlying22 info21 rfl .i64 .i64 n (by omega) (by omega) w

theorem neq_nil (p : Option Addr) (n c : Nat) (w : World) : (binOp .neq 22 (.slice p n c) (.slice none 0 0)).run Try.prog w = .ok (.bool (!p.isNone)) w := run_neq_slice_nil_any w 22 21 p n c 0 0 Try.underlying22

def C (c : Int) : Value := .int .i32 c

/-- What the copy leaves. -/
theorem has_of {w w' : World} {p : Option Addr} {n g : Nat} {Z : List Int} {L : List Value} (hR : Raw w p n Z) (hL : L.length = n) (h : w'.heap[g]? = some (.cells (splice L 0 (Z.map C)).toArray 21 (0, 0))) : Has w' g Z := by
  have e : splice L 0 (Z.map C) = Z.map C := by
    unfold splice
    rw [List.take_zero, List.nil_append, List.drop_eq_nil_of_le (by simp [hR.len, hL]), List.append_nil]
  rw [e] at h
  intro i c hi
  obtain ⟨_, _, _, h1⟩ := hR.src i c hi
  exact ⟨by simp [World.cell?, h, hi, C], h1⟩

theorem path_cell {w : World} {base k c g : Nat} {L : List Int} (h : Own w base 3 (.slice (some ⟨g, 0, none⟩) k c) (L.map I)) {i : Nat} {x : Int} (hi : L[i]? = some x) : w.cell? ⟨g, i, none⟩ = some (.int .i64 x) := by
  obtain ⟨g', c', hv, hc, _⟩ := h.cell (i := i) (x := I x) (by rw [List.getElem?_map, hi]; rfl)
  simp only [Value.slice.injEq, Option.some.injEq, Addr.mk.injEq, and_true] at hv
  rw [hv.1]
  exact hc

theorem path_form {w : World} {base : Nat} {v : Value} {L : List Int} {k : Nat} (h : Own w base 3 v (L.map I)) (hk : L.length = k) (h0 : 0 < k) : ∃ g c, v = .slice (some ⟨g, 0, none⟩) k c := by
  obtain ⟨g, c, hv, _⟩ := World.ownsRow.form h (by simpa [hk] using h0)
  exact ⟨g, c, by rw [hv]; simp [hk]⟩

set_option maxHeartbeats 2000000 in
set_option maxRecDepth 20000 in
theorem law3 (w : World) (p0 : Option Addr) (n cap : Nat) (Z : List Int) (hR : Raw w p0 n Z) (hn : n ≤ 9223372036854775807) (u : Int) :
    Calls Try.prog 3 #[.slice p0 n cap, .int .i64 u] w (TruePost w) := by
  go_enter Try.func3, Try.ntmps3
  go_wp2_with fail
  refine (zzBytes5 w p0 n cap u hn).mono ?_
  rintro e w1 ⟨⟨b, rfl⟩, hw⟩
  subst w1
  cases b with
  | false =>
    go_wp2
    go_ret
    exact ⟨rfl, Below.refl _ _⟩
  | true =>
  by_cases h1 : (65536 : Int) < (n : Int)
  · go_wp2
    go_ret
    exact ⟨rfl, Below.refl _ _⟩
  by_cases h2 : u < 0
  · go_wp2
    go_ret
    exact ⟨rfl, Below.refl _ _⟩
  by_cases h3 : (n : Int) ≤ u
  · go_wp2
    go_ret
    exact ⟨rfl, Below.refl _ _⟩
  go_wp2_with fail
  refine (rooted w p0 n cap Z hR u (by omega) (by omega) (by omega)).mono ?_
  rintro e w1 ⟨hw, h⟩
  subst w1
  rcases h with rfl | ⟨rfl, L, hL, hLl⟩
  · go_wp2
    go_ret
    exact ⟨rfl, Below.refl _ _⟩
  obtain ⟨j, rfl⟩ : ∃ j : Nat, u = (j : Int) := ⟨u.toNat, by omega⟩
  have hj : j < Z.length := by rw [hR.len]; omega
  obtain ⟨ad, rfl, _⟩ := hR.src j _ (List.getElem?_eq_getElem hj)
  have hnil := neq_nil (some ad) n cap w
  obtain ⟨w1, hw1⟩ : ∃ w1, w.alloc (.cells (madeCells #[.int .i32 0] n) 21) = w1 := ⟨_, rfl⟩
  have hmk := made_ints w n (by omega)
  obtain ⟨g, hg⟩ : ∃ g, w.heap.size = g := ⟨_, rfl⟩
  have b1 : Below w.heap.size w w1 := by rw [← hw1]; exact (Below.refl _ _).alloc (Nat.le_refl _) _
  have r1 : w1.heap[g]? = some (.cells (madeCells #[.int .i32 0] n).toList.toArray 21 (0, 0)) := by
    rw [← hw1, ← hg, Array.toArray_toList]; exact heap_alloc_new w _
  rw [hw1, hg] at hmk
  have HA := hR.below b1
  have HS : Hid (_ ∧ _) := ⟨HA, b1⟩
  have hLen : (madeCells #[.int .i32 0] n).toList.length = n := by simp [size_madeCells]
  obtain ⟨Y, hY⟩ : ∃ Y, (madeCells #[.int .i32 0] n).toList = Y := ⟨_, rfl⟩
  rw [hY] at r1 hLen
  have HR1 : Hid (w1.heap[g]? = some (.cells Y.toArray 21 (0, 0))) := r1
  have HL : Hid (_ ∧ _) := ⟨hL, hLl⟩
  clear hY hw1 r1 b1 HA hL hLl
  go_wp2_with (refine wpList_copy_splice rfl (.tmp 34) (.tmp 35) 22 22 rfl 21 Try.underlying22 size21 (some ⟨g, 0, none⟩) (some ad) n n n cap rfl rfl g 0 Y 21 HR1.out (Z.map C) (by rw [List.length_map, hR.len]; exact (Nat.min_self n).symm) (fun _ => ⟨rfl, ad, rfl, fun j v hj => by rw [List.getElem?_map] at hj; obtain ⟨c, hc, rfl⟩ := Option.map_eq_some_iff.1 hj; obtain ⟨x, e, h1, _⟩ := HS.out.1.src j c hc; cases e; exact h1⟩) (by rw [List.length_map, hR.len, hLen]; omega) (by intro v hv; obtain ⟨c, _, rfl⟩ := List.mem_map.1 hv; rfl) w.heap.size w HS.out.2 (by omega) ?_; intro w2 hr2 hb2)
  obtain ⟨hL, hLl⟩ := HL.out
  have hZ := has_of hR hLen hr2.out
  have hlen := hR.len
  refine (zzPath w2 g n n Z j L hZ hlen (by omega) (by omega) hL hLl).mono ?_
  rintro e w3 ⟨v, rfl, hO, hB⟩
  have hZ3 := hZ.below hB
  have bel3 := hb2.trans (hB.mono hb2.size)
  obtain ⟨L', rfl, _, hL'⟩ := hL.pos (by omega)
  obtain ⟨k, hk⟩ : ∃ k, L'.length = k := ⟨_, rfl⟩
  obtain ⟨g1, c1, rfl⟩ := path_form (k := k + 1) hO (by simp [hk]) (by omega)
  have hlast : w3.cell? ⟨g1, k, none⟩ = some (.int .i64 (j : Int)) := path_cell hO (by simp [hk])
  obtain ⟨hc, hb1, hb2'⟩ := hZ3 j _ (List.getElem?_eq_getElem hj)
  have e : Z.getD ((j : Int)).toNat 0 = Z[j] := by simp [List.getD, hj]
  rw [e] at hL'
  obtain ⟨c, hc'⟩ : ∃ c, Z[j] = c := ⟨_, rfl⟩
  rw [hc'] at hc hb1 hb2' hL'
  simp only [List.length_cons, hk] at hLl
  have HX : Hid (_ ∧ _ ∧ _ ∧ _) := ⟨hZ3, hO, bel3, hL'⟩
  have e1 : ((k : Int) + 1 - 1) = (k : Int) := by omega
  by_cases hc0 : c < 0
  · obtain rfl := hL'.neg hc0
    simp at hk
    subst hk
    clear hL' hO hZ hZ3 HS HR1 HL hr2 hR e hc' hL hB hb2 bel3 hnil hmk
    go_wp2
    go_ret
    exact ⟨rfl, HX.out.2.2.1⟩
  · clear hL' hO hZ hZ3 HS HR1 HL hr2 hR e hc' hL hB hb2 bel3 hnil hmk
    go_wp2_with fail
    obtain ⟨hZ3, hO, bel3, hL'⟩ := HX.out
    refine (zzPath w3 g n n Z c L' hZ3 hlen (by omega) (by omega) hL' (by omega)).mono ?_
    rintro e w4 ⟨v, rfl, hO4, hB4⟩
    have hk0 : 0 < k := by
      obtain ⟨L3, rfl, _⟩ := hL'.pos (by omega)
      rw [← hk]; simp
    obtain ⟨g2, c2, rfl⟩ := path_form (k := k) hO4 (by simp [hk]) hk0
    have HC : Hid (∀ i, i < k → ∃ x, w4.cell? ⟨g1, i, none⟩ = some (.int .i64 x) ∧ w4.cell? ⟨g2, i, none⟩ = some (.int .i64 x)) := by
      intro i hi
      have hr : i < L'.reverse.length := by simp; omega
      refine ⟨L'.reverse[i], path_cell (hO.below hB4) ?_, path_cell hO4 (List.getElem?_eq_getElem hr)⟩
      rw [List.reverse_cons, List.getElem?_append_left hr]
      exact List.getElem?_eq_getElem hr
    have HB : Hid (Below w.heap.size w w4) := bel3.trans (hB4.mono bel3.size)
    have hk1 : k ≤ 65536 := by omega
    have e2 : ((k : Int) + 1 == (k : Int) + 1) = true := by simp
    clear hZ3 hO bel3 hL' hO4 hB4 hk HX hlast hc hlen hLen
    go_wp2_with fail
    go_loopw [9] (fun i wr => ∃ (m t : Nat), m ≤ k ∧ i = .int .i64 m ∧ wr = w4.drewN t) (fun i _ => k - (intOf i).toNat)
    case atStart => exact ⟨0, 0, Nat.zero_le _, rfl, rfl⟩
    case round =>
      obtain ⟨m, t, hm, rfl, rfl⟩ := hrel
      by_cases hlt : m < k
      · obtain ⟨x, d1, d2⟩ := HC.out m hlt
        have hlt' : (m : Int) < (k : Int) := by omega
        have hlt2 : (m : Int) < (k : Int) + 1 := by omega
        go_wp2
        go_quiet (fail)
        go_wp2
        go_roundw
        case rel => exact ⟨m + 1, _, by omega, by go_num, rfl⟩
        case measure => simp [intOf]; omega
      · have hlt' : ¬ (m : Int) < (k : Int) := by omega
        go_wp2
        go_ret
        exact ⟨rfl, HB.out.trans ((below_drewN w4 t).mono HB.out.size)⟩

end Go.Proofs.Qxb6625644a
