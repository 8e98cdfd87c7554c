/-
  Seat b6625644a: the walk of 'FnPathEveryPrefixIsAPath' (4).
-/
import Derived.Test.Qxb6625644aLawA
namespace Go.Proofs.Qxb6625644a
open Go.RowKit
set_option linter.unusedSimpArgs false
set_option linter.unusedVariables false

/-- What the law says of place m of the path. -/
theorem chain_at {Z : List Int} {u : Int} {L : List Int} (h : Rt Z u L) {m : Nat} {x : Int} (hx : L.reverse[m]? = some x) :
    ∃ D, Rt Z x D ∧ D.length = m + 1 ∧ D.reverse = L.reverse.take (m + 1) ∧ 0 ≤ x ∧ x < Z.length ∧ (m = 0 → Z.getD x.toNat 0 < 0) ∧ (∀ y, 0 < m → L.reverse[m - 1]? = some y → Z.getD x.toNat 0 = y) := by
  have hm : m < L.length := by have := (List.getElem?_eq_some_iff.1 hx).1; simpa using this
  have hx' : L[L.length - 1 - m]? = some x := by rw [← hx, List.getElem?_reverse hm]
  have hD := h.drop L (L.length - 1 - m) x hx'
  have hr := hD.snoc _ (fun _ _ => trivial) x (by
    rw [List.drop_eq_getElem_cons (by omega)]
    have : L[L.length - 1 - m]'(by omega) = x := (List.getElem?_eq_some_iff.1 hx').2
    rw [this]; simp)
  have hl : (L.drop (L.length - 1 - m)).length = m + 1 := by simp; omega
  refine ⟨L.drop (L.length - 1 - m), hD, hl, ?_, hr.1, hr.2, ?_, ?_⟩
  · rw [List.reverse_drop]
    congr 1
    omega
  · intro h0
    obtain ⟨D', hD', _, hD2⟩ := hD.pos hr.1
    have : D'.length = 0 := by rw [hD'] at hl; simp at hl; omega
    obtain rfl := List.eq_nil_of_length_eq_zero this
    exact hD2
  · intro y h0 hy
    obtain ⟨D', hD', _, hD2⟩ := hD.pos hr.1
    have hlt : L.length - 1 - m + 1 < L.length := by omega
    have hy' : L[L.length - 1 - m + 1]? = some y := by
      rw [← hy, List.getElem?_reverse (by omega)]
      congr 1
      omega
    have h2 : (L.drop (L.length - 1 - m))[1]? = some y := by rw [List.getElem?_drop]; exact hy'
    rw [hD'] at h2
    cases D' with
    | nil => simp at h2
    | cons z D'' =>
      simp at h2
      subst h2
      unfold Rt at hD2
      exact hD2.1.symm

set_option maxHeartbeats 2000000 in
set_option maxRecDepth 20000 in
theorem law4 (w : World) (p0 : Option Addr) (n cap : Nat) (Z : List Int) (hR : Raw w p0 n Z) (hn : n ≤ 9223372036854775807) (u : Int) :
    Calls Try.prog 4 #[.slice p0 n cap, .int .i64 u] w (TruePost w) := by
  go_enter Try.func4, Try.ntmps4
  go_wp2_with fail
  refine (zzBytes8 w p0 n cap u hn).mono ?_
  rintro e w1 ⟨⟨b, rfl⟩, hw⟩
  subst w1
  cases b with
  | false =>
    go_wp2
    go_ret
    exact ⟨rfl, Below.refl _ _⟩
  | true =>
  by_cases h1 : (4096 : Int) < (n : Int)
  · go_wp2
    go_ret
    exact ⟨rfl, Below.refl _ _⟩
  by_cases h2 : u < 0
  · go_wp2
    go_ret
    exact ⟨rfl, Below.refl _ _⟩
  by_cases h3 : (n : Int) ≤ u
  · go_wp2
    go_ret
    exact ⟨rfl, Below.refl _ _⟩
  go_wp2_with fail
  refine (rooted w p0 n cap Z hR u (by omega) (by omega) (by omega)).mono ?_
  rintro e w1 ⟨hw, h⟩
  subst w1
  rcases h with rfl | ⟨rfl, L, hL, hLl⟩
  · go_wp2
    go_ret
    exact ⟨rfl, Below.refl _ _⟩
  obtain ⟨j, rfl⟩ : ∃ j : Nat, u = (j : Int) := ⟨u.toNat, by omega⟩
  have hj : j < Z.length := by rw [hR.len]; omega
  obtain ⟨ad, rfl, _⟩ := hR.src j _ (List.getElem?_eq_getElem hj)
  have hnil := neq_nil (some ad) n cap w
  obtain ⟨w1, hw1⟩ : ∃ w1, w.alloc (.cells (madeCells #[.int .i32 0] n) 21) = w1 := ⟨_, rfl⟩
  have hmk := made_ints w n (by omega)
  obtain ⟨g, hg⟩ : ∃ g, w.heap.size = g := ⟨_, rfl⟩
  have b1 : Below w.heap.size w w1 := by rw [← hw1]; exact (Below.refl _ _).alloc (Nat.le_refl _) _
  have r1 : w1.heap[g]? = some (.cells (madeCells #[.int .i32 0] n).toList.toArray 21 (0, 0)) := by
    rw [← hw1, ← hg, Array.toArray_toList]; exact heap_alloc_new w _
  rw [hw1, hg] at hmk
  have HA := hR.below b1
  have HS : Hid (_ ∧ _) := ⟨HA, b1⟩
  have hLen : (madeCells #[.int .i32 0] n).toList.length = n := by simp [size_madeCells]
  obtain ⟨Y, hY⟩ : ∃ Y, (madeCells #[.int .i32 0] n).toList = Y := ⟨_, rfl⟩
  rw [hY] at r1 hLen
  have HR1 : Hid (w1.heap[g]? = some (.cells Y.toArray 21 (0, 0))) := r1
  have HL : Hid (_ ∧ _) := ⟨hL, hLl⟩
  clear hY hw1 r1 b1 HA hL hLl
  go_wp2_with (refine wpList_copy_splice rfl (.tmp 34) (.tmp 35) 22 22 rfl 21 Try.underlying22 size21 (some ⟨g, 0, none⟩) (some ad) n n n cap rfl rfl g 0 Y 21 HR1.out (Z.map C) (by rw [List.length_map, hR.len]; exact (Nat.min_self n).symm) (fun _ => ⟨rfl, ad, rfl, fun j v hj => by rw [List.getElem?_map] at hj; obtain ⟨c, hc, rfl⟩ := Option.map_eq_some_iff.1 hj; obtain ⟨x, e, h1, _⟩ := HS.out.1.src j c hc; cases e; exact h1⟩) (by rw [List.length_map, hR.len, hLen]; omega) (by intro v hv; obtain ⟨c, _, rfl⟩ := List.mem_map.1 hv; rfl) w.heap.size w HS.out.2 (by omega) ?_; intro w2 hr2 hb2)
  obtain ⟨hL, hLl⟩ := HL.out
  have hZ := has_of hR hLen hr2.out
  have hlen := hR.len
  refine (zzPath w2 g n n Z j L hZ hlen (by omega) (by omega) hL hLl).mono ?_
  rintro e w3 ⟨v, rfl, hO, hB⟩
  have hZ3 := hZ.below hB
  have bel3 := hb2.trans (hB.mono hb2.size)
  obtain ⟨L', hLL, _, _⟩ := hL.pos (by omega)
  obtain ⟨k, hk⟩ : ∃ k, L'.length = k := ⟨_, rfl⟩
  have hkL : L.length = k + 1 := by rw [hLL]; simp [hk]
  obtain ⟨g1, c1, rfl⟩ := path_form (k := k + 1) hO (by simp [hkL]) (by omega)
  have hlast : w3.cell? ⟨g1, k, none⟩ = some (.int .i64 (j : Int)) := path_cell hO (by rw [hLL]; simp [hk])
  have hkn : k + 1 ≤ n := by omega
  have e1 : ((k : Int) + 1 - 1) = (k : Int) := by omega
  have e2 : ¬ (n : Int) < (k : Int) + 1 := by omega
  have e3 : (((k : Int) + 1) == 0) = false := by simp; omega
  have HX : Hid (_ ∧ _ ∧ _ ∧ _ ∧ _ ∧ _) := ⟨hZ3, hO, bel3, hL, hlen, hkL⟩
  clear hO hZ hZ3 HS HR1 HL hr2 hR hL hB hb2 bel3 hnil hmk hLL hk hkL hLl hLen hlen
  go_wp2_with fail
  go_loopw [7] (fun i wr => ∃ (m : Nat), m ≤ k + 1 ∧ i = .int .i64 m ∧ Hid (Below w3.heap.size w3 wr)) (fun i _ => k + 1 - (intOf i).toNat)
  case atStart => exact ⟨0, Nat.zero_le _, rfl, Below.refl _ _⟩
  case round =>
    obtain ⟨m, hm, rfl, HW⟩ := hrel
    by_cases hlt : m < k + 1
    · obtain ⟨hZ3, hO, bel3, hL, hlen, hkL⟩ := HX.out
      have hZr := hZ3.below HW.out
      have hOr := hO.below HW.out
      have hrl : m < L.reverse.length := by simp; omega
      obtain ⟨x, hx⟩ : ∃ x, L.reverse[m]? = some x := ⟨_, List.getElem?_eq_getElem hrl⟩
      obtain ⟨D, hD1, hD2, hD3, hx0, hx1, hD4, hD5⟩ := chain_at hL hx
      have d1 := path_cell hOr hx
      obtain ⟨i, rfl⟩ : ∃ i : Nat, x = (i : Int) := ⟨x.toNat, by omega⟩
      have hi : i < Z.length := by omega
      obtain ⟨d2, hb1, hb2'⟩ := hZr i _ (List.getElem?_eq_getElem hi)
      have e : Z.getD ((i : Int)).toNat 0 = Z[i] := by simp [List.getD, hi]
      rw [e] at hD4 hD5
      obtain ⟨c, hc'⟩ : ∃ c, Z[i] = c := ⟨_, rfl⟩
      rw [hc'] at d2 hb1 hb2' hD4 hD5
      have hin : (i : Int) < (n : Int) := by omega
      have hin' : ¬ (n : Int) ≤ (i : Int) := by omega
      have hlt' : (m : Int) < (k : Int) + 1 := by omega
      have HY : Hid (_ ∧ _ ∧ _ ∧ _ ∧ _) := ⟨hD1, hD2, hD3, hZr, hOr⟩
      have HD5 : Hid _ := hD5
      have HD4 : Hid _ := hD4
      clear hZ3 hO bel3 hL hlen hkL hZr hOr hrl hx hD1 hD2 hD3 hD4 hD5 e hc' hx1
      have HX2 : Hid _ := HX.out
      clear HX
      go_upto_if 82 with fail
      go_cut [] (fun wx => ∃ t, wx = wr.drewN t)
      case first =>
        by_cases hm0 : m = 0
        · subst hm0
          have hc0 := HD4.out rfl
          have hc0' : ¬ 0 ≤ c := by omega
          clear HD4 HD5 HX2 HY
          go_wp2
          go_meet
          case rel => exact ⟨0, rfl⟩
        · obtain ⟨m', rfl⟩ : ∃ m', m = m' + 1 := ⟨m - 1, by omega⟩
          have hrl : m' < L.reverse.length := by have := HX2.out.2.2.2.2.2; simp; omega
          obtain ⟨y, hy⟩ : ∃ y, L.reverse[m']? = some y := ⟨_, List.getElem?_eq_getElem hrl⟩
          have hyc := HD5.out y (by omega) hy
          subst hyc
          have d3 := path_cell HY.out.2.2.2.2 hy
          have f1 : ((m' : Int) + 1 - 1) = (m' : Int) := by omega
          have f2 : (((m' : Int) + 1) == 0) = false := by simp; omega
          have f3 : (m' : Int) < (k : Int) + 1 := by omega
          have f4 : ¬ ((m' : Int) + 1 = 0) := by omega
          clear HD4 HD5 HX2 HY hy hrl hm0
          go_wp2_with fail
          go_quiet (fail)
          go_wp2
          go_meet
          case rel => exact ⟨_, rfl⟩
      case rest =>
        obtain ⟨t, rfl⟩ := hcut
        obtain ⟨hD1, hD2, hD3, hZr, hOr⟩ := HY.out
        have HD : Hid ((wr.drewN t).cell? ⟨g1, m, none⟩ = some (.int .i64 (i : Int))) := d1
        have hbt := below_drewN wr t
        obtain ⟨wt, hwt⟩ : ∃ wt, wr.drewN t = wt := ⟨_, rfl⟩
        rw [hwt] at HD hbt ⊢
        have d1t := HD.out
        have hZt := hZr.below hbt
        have hOt := hOr.below hbt
        clear HY HD4 HD5 d1 d2 hlast HD hZr hOr hwt
        go_wp2_with fail
        refine (zzPath wt g n n Z i D hZt HX2.out.2.2.2.2.1 (by omega) (by omega) hD1 (by omega)).mono ?_
        rintro e w5 ⟨v, rfl, hO5, hB5⟩
        obtain ⟨g2, c2, rfl⟩ := path_form (k := m + 1) hO5 (by simp [hD2]) (by omega)
        have HC : Hid (∀ a, a < m + 1 → ∃ x, w5.cell? ⟨g1, a, none⟩ = some (.int .i64 x) ∧ w5.cell? ⟨g2, a, none⟩ = some (.int .i64 x)) := by
          intro a ha
          have hr : a < D.reverse.length := by simp; omega
          obtain ⟨x, ex⟩ : ∃ x, D.reverse[a]? = some x := ⟨_, List.getElem?_eq_getElem hr⟩
          refine ⟨x, path_cell (hOt.below hB5) ?_, path_cell hO5 ex⟩
          rw [hD3, List.getElem?_take, if_pos ha] at ex
          exact ex
        have HB : Hid (Below w3.heap.size w3 w5) := HW.out.trans ((hbt.trans (hB5.mono hbt.size)).mono HW.out.size)
        have f5 : ((m : Int) + 1 == (m : Int) + 1) = true := by simp
        clear hO5 hB5 hOt hZt hbt hD1 hD2 hD3 d1t HW
        go_wp2_with fail
        go_loopw [9] (fun a wr => ∃ (b t : Nat), b ≤ m + 1 ∧ a = .int .i64 b ∧ wr = w5.drewN t) (fun a _ => m + 1 - (intOf a).toNat)
        case atStart => exact ⟨0, 0, Nat.zero_le _, rfl, rfl⟩
        case round =>
          obtain ⟨b, t', hb, rfl, rfl⟩ := hrel
          by_cases hbm : b < m + 1
          · obtain ⟨x, r1, r2⟩ := HC.out b hbm
            have hbm' : (b : Int) ≤ (m : Int) := by omega
            have hbm2 : (b : Int) < (k : Int) + 1 := by omega
            have hbm3 : (b : Int) < (m : Int) + 1 := by omega
            go_wp2
            go_quiet (fail)
            go_wp2
            go_roundw
            case rel => exact ⟨b + 1, _, by omega, by go_num, rfl⟩
            case measure => simp [intOf]; omega
          · have hbm' : ¬ (b : Int) ≤ (m : Int) := by omega
            go_wp2
            go_roundw
            case rel => exact ⟨m + 1, by omega, by go_num, HB.out.trans ((below_drewN w5 t').mono HB.out.size)⟩
            case measure => simp [intOf]; omega
    · have hlt' : ¬ (m : Int) < (k : Int) + 1 := by omega
      go_wp2
      go_ret
      exact ⟨rfl, HX.out.2.2.1.trans (HW.out.mono HX.out.2.2.1.size)⟩

end Go.Proofs.Qxb6625644a
