/-
  Seat b6625448a: the walk of 'FnEachFieldMatchesGrammar' (3).
-/
import Derived.Test.Qxb6625448aHead
import Derived.Deep.RegionHeld3
namespace Go.Proofs.Qxb6625448a
open Go.RowKit
set_option linter.unusedSimpArgs false
set_option linter.unusedVariables false

theorem scan_mem (B : List Nat) : ∀ (k pos : Nat) (x : Fd), x ∈ (scan B k pos).1 → x.s ≤ x.e ∧ x.e ≤ B.length ∧ 0 < x.e := by
  intro k
  induction k with
  | zero => intro pos x hx; simp [scan] at hx
  | succ k ih =>
    intro pos x hx
    unfold scan at hx
    split at hx
    · simp at hx
    · cases hv : vi B pos with
      | none => simp [hv] at hx
      | some y =>
        obtain ⟨t, n⟩ := y
        have hf := vi_facts hv
        cases he : VE B (pos + n) (t % 8) with
        | none => simp [hv, he] at hx
        | some e =>
          have hs := start_facts he
          simp only [hv, he, List.mem_cons] at hx
          rcases hx with rfl | hx
          · simp only; omega
          · exact ih e x hx

theorem scan_len (B : List Nat) : ∀ (k pos : Nat), pos ≤ B.length → (scan B k pos).1.length + pos ≤ B.length := by
  intro k
  induction k with
  | zero => intro pos h; simpa [scan] using h
  | succ k ih =>
    intro pos h
    unfold scan
    split
    · simpa using h
    · cases hv : vi B pos with
      | none => simpa using h
      | some y =>
        obtain ⟨t, n⟩ := y
        have hf := vi_facts hv
        cases he : VE B (pos + n) (t % 8) with
        | none => simpa [he] using h
        | some e =>
          have hg := VE_facts he
          have := ih e hg.2
          simp only [he, List.length_cons]
          omega

theorem alike_same {w : World} {g s e : Nat} {B : List Nat} {a ay : Addr} (hH : Has w g B) (he : e ≤ B.length) (ha : s < e → a = ⟨g, s, none⟩) (hy : s < e → ay = ⟨g, s, none⟩) : Alike w a ay (e - s) := by
  intro h
  refine ⟨g, s, g, s, ha (by omega), hy (by omega), fun i hi => ?_⟩
  have hl : s + i < B.length := by omega
  have := (hH (s + i) _ (List.getElem?_eq_getElem hl)).1
  exact ⟨_, this, this⟩

theorem below_cells {W w1 : World} (h : Below W.heap.size W w1) {b o : Nat} {v : Value} (hc : W.cell? ⟨b, o, none⟩ = some v) : w1.cell? ⟨b, o, none⟩ = some v :=
  (h.cell (p := ⟨b, o, none⟩) (World.block_lt_of_cell? W _ hc)).trans hc

theorem Own.at {w : World} {base : Nat} {e : TypeId} {q : Option Addr} {m c : Nat} {xs : List Value} (h : Own w base e (.slice q m c) xs) {i : Nat} {x : Value} (hi : xs[i]? = some x) : ∃ g, q = some ⟨g, 0, none⟩ ∧ w.cell? ⟨g, i, none⟩ = some x := by
  obtain ⟨g, c', hv, hc, _⟩ := h.cell hi
  simp only [Value.slice.injEq] at hv
  exact ⟨g, hv.1, hc⟩

set_option maxHeartbeats 4000000 in
set_option maxRecDepth 20000 in
theorem law3 (w : World) (p0 : Option Addr) (n cap : Nat) (B : List Nat) (hR : Raw w p0 n cap B) (hn : n ≤ 9223372036854775807) :
    Calls Try.prog 3 #[.slice p0 n cap] w (TruePost w) := by
  have hnil := neq_nil
  go_enter Try.func3, Try.ntmps3
  go_wp2_with fail
  refine (zzBytes5 w p0 n cap hn).mono ?_
  rintro e w1 ⟨⟨b, rfl⟩, hw⟩
  subst w1
  cases b with
  | false =>
    go_wp2
    go_ret
    exact ⟨rfl, Below.refl _ _⟩
  | true =>
  by_cases h1 : (65536 : Int) < (n : Int)
  · go_wp2
    go_ret
    exact ⟨rfl, Below.refl _ _⟩
  go_upto_if 21 with fail
  go_cut [0] (fun v wx => Hid (Mine w wx n B v))
  case first =>
    cases p0 with
    | none =>
      obtain ⟨hB, rfl⟩ := hR.nil rfl
      have hn0 := hR.len
      subst hB
      simp at hn0
      subst hn0
      go_wp2
      go_meet
      case rel => exact ⟨none, rfl, ⟨fun _ => rfl, fun a h => by cases h⟩, Below.refl _ _⟩
    | some ad =>
      obtain ⟨w1, hw1⟩ : ∃ w1, w.alloc (.cells (madeCells #[.int .u8 0] n) 5) = w1 := ⟨_, rfl⟩
      have hmk := made_bytes w n (by omega)
      obtain ⟨g, hg⟩ : ∃ g, w.heap.size = g := ⟨_, rfl⟩
      have b1 : Below w.heap.size w w1 := by rw [← hw1]; exact (Below.refl _ _).alloc (Nat.le_refl _) _
      have r1 : w1.heap[g]? = some (.cells (madeCells #[.int .u8 0] n).toList.toArray 5 (0, 0)) := by
        rw [← hw1, ← hg, Array.toArray_toList]; exact heap_alloc_new w _
      rw [hw1, hg] at hmk
      have HA := hR.below b1
      have HS : Hid (_ ∧ _) := ⟨HA, b1⟩
      have hLl : (madeCells #[.int .u8 0] n).toList.length = n := by simp [size_madeCells]
      obtain ⟨Z, hZ⟩ : ∃ Z, (madeCells #[.int .u8 0] n).toList = Z := ⟨_, rfl⟩
      rw [hZ] at r1 hLl
      have HR1 : Hid (w1.heap[g]? = some (.cells Z.toArray 5 (0, 0))) := r1
      clear hZ hw1 r1 b1 HA
      go_wp2_with (refine wpList_copy_splice rfl (.tmp 25) (.tmp 26) 22 22 rfl 5 Try.underlying22 size5 (some ⟨g, 0, none⟩) (some ad) n n n cap rfl rfl g 0 Z 5 HR1.out (B.map byteC) (by rw [List.length_map, hR.len]; exact (Nat.min_self n).symm) (fun _ => ⟨rfl, ad, rfl, fun j v hj => by rw [List.getElem?_map] at hj; obtain ⟨c, hc, rfl⟩ := Option.map_eq_some_iff.1 hj; obtain ⟨x, e, h1, _⟩ := HS.out.1.src j c hc; cases e; exact h1⟩) (by rw [List.length_map, hR.len, hLl]; omega) (by intro v hv; obtain ⟨c, _, rfl⟩ := List.mem_map.1 hv; rfl) w.heap.size w HS.out.2 (by omega) ?_; intro w2 hr2 hb2)
      go_meet
      case rel =>
        exact mine_of hR.len (fun c hc => by obtain ⟨i, hi⟩ := List.getElem?_of_mem hc; exact (hR.src i c hi).choose_spec.2.2) hLl hr2.out hb2
  case rest =>
    obtain ⟨p, rfl, hM, bel⟩ := hcut.out
    have hN := hR.len
    clear hcut hR hnil
    go_wp2_with fail
    refine (collect wc p n B hM hN (by omega)).mono ?_
    rintro e w1 ⟨v1, v2, v3, vals, rfl, o1, o2, o3, hVa, bel1⟩
    have hM1 := hM.below bel1
    have bel2 := bel.trans (bel1.mono bel.size)
    go_wp2_with fail
    refine (model w1 p n n B hM1 hN (by omega)).mono ?_
    rintro e w2 ⟨u1, u2, u3, u4, rfl, hF, bel3⟩
    have hM2 := hM1.below bel3
    have bel4 := bel2.trans (bel3.mono bel2.size)
    have o1' := o1.below bel3
    have o2' := o2.below bel3
    have o3' := o3.below bel3
    obtain ⟨f1, f2, f3, f4, _, _, _, _, _, _⟩ := hF
    clear hM hM1 bel bel1 bel2 bel3 o1 o2 o3
    have hSl := scan_len B (B.length + 1) 0 (Nat.zero_le _)
    have hSl' : (S B 0).1.length ≤ B.length := by unfold S; omega
    have hmem : ∀ x ∈ (S B 0).1, x.s ≤ x.e ∧ x.e ≤ B.length ∧ 0 < x.e := fun x hx => scan_mem B _ _ x hx
    obtain ⟨r, hr⟩ : ∃ r, (S B 0).2 = r := ⟨_, rfl⟩
    obtain ⟨F, hF⟩ : ∃ F, (S B 0).1 = F := ⟨_, rfl⟩
    rw [hF] at o1' o2' f1 f2 f3 f4 hVa hmem hSl'
    clear hSl
    rw [hr]
    clear hr hF
    obtain ⟨M, hMl⟩ : ∃ M, F.length = M := ⟨_, rfl⟩
    obtain ⟨q1, d1, rfl, _⟩ := o1'.len
    obtain ⟨q2, d2, rfl, _⟩ := o2'.len
    obtain ⟨q3, d3, rfl, _⟩ := o3'.len
    obtain ⟨q4, d4, rfl, _⟩ := f1.len
    obtain ⟨q5, d5, rfl, _⟩ := f2.len
    obtain ⟨q6, d6, rfl, _⟩ := f3.len
    obtain ⟨q7, d7, rfl, _⟩ := f4.len
    have hvl : vals.length = M := by rw [hVa.1]; exact hMl
    have HM2 : Hid (M ≤ 1048576) := by unfold Hid; omega
    simp only [List.length_map, hMl, hvl] at o1' o2' o3' f1 f2 f3 f4 ⊢
    have hMs := HM2.out
    have HO : Hid (Own w2 wc.heap.size 31 (.slice q1 M d1) (F.map fV) ∧ Own w2 wc.heap.size 31 (.slice q2 M d2) (F.map wV) ∧ Own w2 wc.heap.size 22 (.slice q3 M d3) vals ∧ Own w2 w1.heap.size 31 (.slice q4 M d4) (F.map fV) ∧ Own w2 w1.heap.size 31 (.slice q5 M d5) (F.map wV) ∧ Own w2 w1.heap.size 3 (.slice q6 M d6) (F.map sV) ∧ Own w2 w1.heap.size 3 (.slice q7 M d7) (F.map eV)) := ⟨o1', o2', o3', f1, f2, f3, f4⟩
    have HME : Hid _ := hmem
    have HVa : Hid _ := hVa
    have HM3 : Hid _ := hM2
    have HB4 : Hid _ := bel4
    clear o1' o2' o3' f1 f2 f3 f4 hmem hVa hM2 bel4
    go_wp2_with fail
    go_loopw [13] (fun i wr => ∃ k : Nat, k ≤ M ∧ i = .int .i64 k ∧ Hid (Below w2.heap.size w2 wr)) (fun i _ => M - (intOf i).toNat)
    case atStart => exact ⟨0, Nat.zero_le _, rfl, Below.refl _ _⟩
    case round =>
      obtain ⟨k, hk, rfl, HW⟩ := hrel
      by_cases hlt : k < M
      · obtain ⟨o1, o2, o3, o4, o5, o6, o7⟩ := HO.out
        obtain ⟨x, hx⟩ : ∃ x, F[k]? = some x := ⟨_, List.getElem?_eq_getElem (by omega)⟩
        have hxm := HME.out x (List.mem_of_getElem? hx)
        obtain ⟨a, ca, hv, hva⟩ := HVa.out.2 k x hx
        obtain ⟨g1, rfl, c1⟩ := (o1.below HW.out).at (i := k) (x := fV x) (by rw [List.getElem?_map, hx]; rfl)
        obtain ⟨g2, rfl, c2⟩ := (o2.below HW.out).at (i := k) (x := wV x) (by rw [List.getElem?_map, hx]; rfl)
        obtain ⟨g3, rfl, c3⟩ := (o3.below HW.out).at hv
        obtain ⟨g4, rfl, c4⟩ := (o4.below HW.out).at (i := k) (x := fV x) (by rw [List.getElem?_map, hx]; rfl)
        obtain ⟨g5, rfl, c5⟩ := (o5.below HW.out).at (i := k) (x := wV x) (by rw [List.getElem?_map, hx]; rfl)
        obtain ⟨g6, rfl, c6⟩ := (o6.below HW.out).at (i := k) (x := sV x) (by rw [List.getElem?_map, hx]; rfl)
        obtain ⟨g7, rfl, c7⟩ := (o7.below HW.out).at (i := k) (x := eV x) (by rw [List.getElem?_map, hx]; rfl)
        obtain ⟨g, rfl, hg, hH⟩ := (HM3.out.below HW.out).some_of (i := 0) (by omega)
        rw [hN] at hxm
        obtain ⟨h7, h8, h9⟩ := hxm
        obtain ⟨xf, xw, xs, xe⟩ := x
        simp only [fV, wV, sV, eV] at c1 c2 c3 c4 c5 c6 c7 h7 h8 h9 hva
        have hlt' : (k : Int) < (M : Int) := by omega
        have HH : Hid _ := hH
        have HVA : Hid (xs < xe → a = ⟨g, xs, none⟩) := by
          intro h; obtain ⟨g', e, e'⟩ := hva h; cases e; exact e'
        clear o1 o2 o3 o4 o5 o6 o7 hx hv hva hH
        go_wp2
        go_quiet (fail)
        go_wp2
        by_cases hsn : xs < n
        · have hS : ∀ u : World, Has u g B → Calls Try.prog 8 #[.slice (some a) (xe - xs) ca, .slice (some ⟨g, xs, none⟩) (xe - xs) (n - xs)] u (TruePost u) := fun u hu => same u a ⟨g, xs, none⟩ (xe - xs) ca (n - xs) (by omega) (alike_same hu (by omega) HVA.out (fun _ => rfl))
          have HS8 : Hid _ := hS
          have hne : ¬ n = xs := by omega
          clear hS
          go_region_held3 (fun u => u.cell? ⟨g3, k, none⟩ = some (.slice (some a) (xe - xs) ca) ∧ u.cell? ⟨g6, k, none⟩ = some (.int .i64 (xs : Int)) ∧ u.cell? ⟨g7, k, none⟩ = some (.int .i64 (xe : Int)))
            (first | exact ⟨c3, c6, c7⟩ | exact ⟨d3, d6, d7⟩)
            (first
              | (go_at_call 8; refine (HS8.out _ (by exact HH.out)).mono ?_; rintro e w5 ⟨rfl, hb5⟩; have d3 := below_cells hb5 (by exact c3); have d6 := below_cells hb5 (by exact c6); have d7 := below_cells hb5 (by exact c7)))
          have HX : Hid (Below w2.heap.size w2 w5) := HW.out.trans (Below.mono (B := wr.heap.size) ⟨hb5.os, hb5.tape, hb5.output, hb5.size, hb5.block⟩ HW.out.size)
          clear hb5 d3 d6 d7 c1 c2 c3 c4 c5 c6 c7
          go_wp2
          go_roundw
          case rel => exact ⟨k + 1, by omega, by go_num, HX⟩
          case measure => simp [intOf]; omega
        · obtain rfl : xs = n := by omega
          obtain rfl : xe = xs := by omega
          go_region_held3 (fun u => u.cell? ⟨g3, k, none⟩ = some (.slice (some a) (xe - xe) ca) ∧ u.cell? ⟨g6, k, none⟩ = some (.int .i64 (xe : Int)) ∧ u.cell? ⟨g7, k, none⟩ = some (.int .i64 (xe : Int)))
            (first | exact ⟨c3, c6, c7⟩ | exact ⟨d3, d6, d7⟩)
            (first
              | (go_at_call 8; refine (same _ a _ 0 ca _ (by omega) (fun h => absurd h (by omega))).mono ?_; rintro e w5 ⟨rfl, hb5⟩; have d3 := below_cells hb5 (by exact c3); have d6 := below_cells hb5 (by exact c6); have d7 := below_cells hb5 (by exact c7)))
          have HX : Hid (Below w2.heap.size w2 w5) := HW.out.trans (Below.mono (B := wr.heap.size) ⟨hb5.os, hb5.tape, hb5.output, hb5.size, hb5.block⟩ HW.out.size)
          clear hb5 d3 d6 d7 c1 c2 c3 c4 c5 c6 c7
          go_wp2
          go_roundw
          case rel => exact ⟨k + 1, by omega, by go_num, HX⟩
          case measure => simp [intOf]; omega
      · go_wp2
        go_ret
        exact ⟨rfl, HB4.out.trans (HW.out.mono HB4.out.size)⟩

end Go.Proofs.Qxb6625448a
