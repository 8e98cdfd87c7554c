/-
  Seat b6625448a: the walk of 'FnEachFieldConcatenation' (4).
-/
import Derived.Test.Qxb6625448aLawA
import Derived.Test.Qxb6625448aCat
namespace Go.Proofs.Qxb6625448a
open Go.RowKit
set_option linter.unusedSimpArgs false
set_option linter.unusedVariables false

theorem alike_of {w : World} {g g' s s' n : Nat} {X Y : List Nat} {a a' : Addr} (hX : Has w g X) (hY : Has w g' Y) (ha : 0 < n → a = ⟨g, s, none⟩) (ha' : 0 < n → a' = ⟨g', s', none⟩) (h : ∀ i, i < n → ∃ c, X[s + i]? = some c ∧ Y[s' + i]? = some c) : Alike w a a' n := by
  intro hn
  refine ⟨g, s, g', s', ha hn, ha' hn, fun i hi => ?_⟩
  obtain ⟨c, h1, h2⟩ := h i hi
  exact ⟨c, (hX _ _ h1).1, (hY _ _ h2).1⟩

/-- Another row grew: the message stands. -/
theorem msg_grown {w w' : World} {p : Option Addr} {B : List Nat} {row : Option Nat} (h : Msg w p B) (hg : w.grownBy w' row) (hr : ∀ k, row = some k → ∀ a, p = some a → a.block ≠ k) : Msg w' p B :=
  ⟨h.nil, fun a ha => by
    obtain ⟨g, rfl, hl, hh⟩ := h.at_ a ha
    refine ⟨g, rfl, Nat.lt_of_lt_of_le hl hg.size, fun i c hi => ?_⟩
    obtain ⟨h1, h2⟩ := hh i c hi
    refine ⟨?_, h2⟩
    have : w'.heap[g]? = w.heap[g]? := hg.block g hl (fun e => hr g e.symm _ ha rfl)
    rw [← h1]
    simp only [World.cell?, this]⟩

theorem msg_none {w : World} {p : Option Addr} {B : List Nat} {n : Nat} (h : Msg w p B) (hn : B.length = n) : p = none → n = 0 ∧ n = 0 := by
  intro hp
  have := h.nil hp
  subst this
  simp at hn
  omega

theorem msg_cells {w : World} {p : Option Addr} {B : List Nat} (h : Msg w p B) : ∀ ad, p = some ad → ∀ (j : Nat) u, (B.map byteC)[j]? = some u → w.cell? (ad.add j) = some u := by
  intro ad hp j u hj
  obtain ⟨g, rfl, _, hh⟩ := h.at_ ad hp
  rw [List.getElem?_map] at hj
  obtain ⟨c, hc, rfl⟩ := Option.map_eq_some_iff.1 hj
  have := (hh j c hc).1
  simpa [Addr.add_lit, byteC] using this

theorem msg_small {w : World} {p : Option Addr} {B : List Nat} (h : Msg w p B) : ∀ c ∈ B, c < 256 := by
  intro c hc
  obtain ⟨i, hi⟩ := List.getElem?_of_mem hc
  obtain ⟨g, _, _, hh⟩ := h.some_of (i := i) (List.getElem?_eq_some_iff.1 hi).1
  exact (hh i c hi).2

/-- A row of one's own that holds bytes is a message. -/
theorem msg_own {w : World} {base g n cap : Nat} {B : List Nat} (hB : ∀ c ∈ B, c < 256) (h : w.ownsRow base 5 1 (.slice (some ⟨g, 0, none⟩) n cap) n (B.map byteC)) (hn : B.length = n) : Msg w (some ⟨g, 0, none⟩) B := by
  refine ⟨(fun h => by cases h), fun a ha => ?_⟩
  cases ha
  refine ⟨g, rfl, ?_, fun i c hi => ⟨?_, hB c (List.mem_of_getElem? hi)⟩⟩
  · rcases h.2 with ⟨h', _⟩ | ⟨g', cap', cur, h', _, hg, _⟩
    · cases h'
    · simp only [Value.slice.injEq, Option.some.injEq, Addr.mk.injEq, and_true, true_and] at h'
      obtain ⟨rfl, rfl⟩ := h'
      exact (Array.getElem?_eq_some_iff.1 hg).1
  · have hl := (List.getElem?_eq_some_iff.1 hi).1
    rw [World.ownsRow.cellAt h i (by omega), List.getElem?_map, hi]
    rfl

set_option maxHeartbeats 8000000 in
set_option maxRecDepth 20000 in
theorem law4 (w : World) (pa pb : Option Addr) (na ca nb cb : Nat) (A B : List Nat) (hRa : Raw w pa na ca A) (hRb : Raw w pb nb cb B) (hna : na ≤ 9223372036854775807) (hnb : nb ≤ 9223372036854775807) :
    Calls Try.prog 4 #[.slice pa na ca, .slice pb nb cb] w (TruePost w) := by
  have hnil := neq_nil
  go_enter Try.func4, Try.ntmps4
  go_wp2_with fail
  refine (zzBytes9 w pa pb na nb ca cb hna hnb).mono ?_
  rintro e w1 ⟨⟨b, rfl⟩, hw⟩
  subst w1
  cases b with
  | false =>
    go_wp2
    go_ret
    exact ⟨rfl, Below.refl _ _⟩
  | true =>
  by_cases h1 : (65536 : Int) < (na : Int)
  · go_wp2
    go_ret
    exact ⟨rfl, Below.refl _ _⟩
  by_cases h2 : (65536 : Int) < (nb : Int)
  · go_wp2
    go_ret
    exact ⟨rfl, Below.refl _ _⟩
  go_upto_if 39 with fail
  go_cut [0] (fun v wx => Hid (Mine w wx na A v))
  case first =>
    cases pa with
    | none =>
      obtain ⟨hB, rfl⟩ := hRa.nil rfl
      have hn0 := hRa.len
      subst hB
      simp at hn0
      subst hn0
      go_wp2
      go_meet
      case rel => exact ⟨none, rfl, ⟨fun _ => rfl, fun a h => by cases h⟩, Below.refl _ _⟩
    | some ad =>
      obtain ⟨w1, hw1⟩ : ∃ w1, w.alloc (.cells (madeCells #[.int .u8 0] na) 5) = w1 := ⟨_, rfl⟩
      have hmk := made_bytes w na (by omega)
      obtain ⟨g, hg⟩ : ∃ g, w.heap.size = g := ⟨_, rfl⟩
      have b1 : Below w.heap.size w w1 := by rw [← hw1]; exact (Below.refl _ _).alloc (Nat.le_refl _) _
      have r1 : w1.heap[g]? = some (.cells (madeCells #[.int .u8 0] na).toList.toArray 5 (0, 0)) := by
        rw [← hw1, ← hg, Array.toArray_toList]; exact heap_alloc_new w _
      rw [hw1, hg] at hmk
      have HA := hRa.below b1
      have HS : Hid (_ ∧ _) := ⟨HA, b1⟩
      have hLl : (madeCells #[.int .u8 0] na).toList.length = na := by simp [size_madeCells]
      obtain ⟨Z, hZ⟩ : ∃ Z, (madeCells #[.int .u8 0] na).toList = Z := ⟨_, rfl⟩
      rw [hZ] at r1 hLl
      have HR1 : Hid (w1.heap[g]? = some (.cells Z.toArray 5 (0, 0))) := r1
      clear hZ hw1 r1 b1 HA hRb
      go_wp2_with (refine wpList_copy_splice rfl (.tmp 43) (.tmp 44) 22 22 rfl 5 Try.underlying22 size5 (some ⟨g, 0, none⟩) (some ad) na na na ca rfl rfl g 0 Z 5 HR1.out (A.map byteC) (by rw [List.length_map, hRa.len]; exact (Nat.min_self na).symm) (fun _ => ⟨rfl, ad, rfl, fun j v hj => by rw [List.getElem?_map] at hj; obtain ⟨c, hc, rfl⟩ := Option.map_eq_some_iff.1 hj; obtain ⟨x, e, h1, _⟩ := HS.out.1.src j c hc; cases e; exact h1⟩) (by rw [List.length_map, hRa.len, hLl]; omega) (by intro v hv; obtain ⟨c, _, rfl⟩ := List.mem_map.1 hv; rfl) w.heap.size w HS.out.2 (by omega) ?_; intro w2 hr2 hb2)
      go_meet
      case rel =>
        exact mine_of hRa.len (fun c hc => by obtain ⟨i, hi⟩ := List.getElem?_of_mem hc; exact (hRa.src i c hi).choose_spec.2.2) hLl hr2.out hb2
  case rest =>
    obtain ⟨qa, rfl, hMa, bela⟩ := hcut.out
    have hRb' := hRb.below bela
    have hla := hRa.len
    have hlb := hRb.len
    clear hcut hRa hRb
    obtain ⟨wA, rfl⟩ : ∃ x, x = wc := ⟨_, rfl⟩
    go_upto_if 48 with fail
    go_cut [1] (fun v wx => Hid (Mine wA wx nb B v))
    case first =>
      cases pb with
      | none =>
        obtain ⟨hB, rfl⟩ := hRb'.nil rfl
        have hn0 := hRb'.len
        subst hB
        simp at hn0
        subst hn0
        go_wp2
        go_meet
        case rel => exact ⟨none, rfl, ⟨fun _ => rfl, fun a h => by cases h⟩, Below.refl _ _⟩
      | some ad =>
        obtain ⟨w1, hw1⟩ : ∃ w1, wA.alloc (.cells (madeCells #[.int .u8 0] nb) 5) = w1 := ⟨_, rfl⟩
        have hmk := made_bytes wA nb (by omega)
        obtain ⟨g, hg⟩ : ∃ g, wA.heap.size = g := ⟨_, rfl⟩
        have b1 : Below wA.heap.size wA w1 := by rw [← hw1]; exact (Below.refl _ _).alloc (Nat.le_refl _) _
        have r1 : w1.heap[g]? = some (.cells (madeCells #[.int .u8 0] nb).toList.toArray 5 (0, 0)) := by
          rw [← hw1, ← hg, Array.toArray_toList]; exact heap_alloc_new wA _
        rw [hw1, hg] at hmk
        have HA := hRb'.below b1
        have HS : Hid (_ ∧ _) := ⟨HA, b1⟩
        have hLl : (madeCells #[.int .u8 0] nb).toList.length = nb := by simp [size_madeCells]
        obtain ⟨Z, hZ⟩ : ∃ Z, (madeCells #[.int .u8 0] nb).toList = Z := ⟨_, rfl⟩
        rw [hZ] at r1 hLl
        have HR1 : Hid (w1.heap[g]? = some (.cells Z.toArray 5 (0, 0))) := r1
        clear hZ hw1 r1 b1 HA hMa bela
        go_wp2_with (refine wpList_copy_splice rfl (.tmp 52) (.tmp 53) 22 22 rfl 5 Try.underlying22 size5 (some ⟨g, 0, none⟩) (some ad) nb nb nb cb rfl rfl g 0 Z 5 HR1.out (B.map byteC) (by rw [List.length_map, hRb'.len]; exact (Nat.min_self nb).symm) (fun _ => ⟨rfl, ad, rfl, fun j v hj => by rw [List.getElem?_map] at hj; obtain ⟨c, hc, rfl⟩ := Option.map_eq_some_iff.1 hj; obtain ⟨x, e, h1, _⟩ := HS.out.1.src j c hc; cases e; exact h1⟩) (by rw [List.length_map, hRb'.len, hLl]; omega) (by intro v hv; obtain ⟨c, _, rfl⟩ := List.mem_map.1 hv; rfl) wA.heap.size wA HS.out.2 (by omega) ?_; intro w2 hr2 hb2)
        go_meet
        case rel =>
          exact mine_of hRb'.len (fun c hc => by obtain ⟨i, hi⟩ := List.getElem?_of_mem hc; exact (hRb'.src i c hi).choose_spec.2.2) hLl hr2.out hb2
    case rest =>
      obtain ⟨qb, rfl, hMb, belb⟩ := hcut.out
      clear hcut hRb' hnil
      have hMa' := hMa.below belb
      have bel := bela.trans (belb.mono bela.size)
      clear hMa bela belb
      obtain ⟨i5, hi5, hz5, hs5, hby5⟩ := info_parts info5
      obtain ⟨b5, hb5⟩ : ∃ b, wc.heap.size = b := ⟨_, rfl⟩
      have hAc : ∀ x ∈ A.map byteC, x.oneCell' = true := by intro v hv; obtain ⟨c, _, rfl⟩ := List.mem_map.1 hv; rfl
      have hBc : ∀ x ∈ B.map byteC, x.oneCell' = true := by intro v hv; obtain ⟨c, _, rfl⟩ := List.mem_map.1 hv; rfl
      have HAc : Hid _ := hAc
      have HBc : Hid _ := hBc
      have hby : i5.bytes * (na + nb) ≤ 281474976710656 := by rw [hby5]; omega
      have hmx : na + nb ≤ maxLen := by unfold maxLen; omega
      have HMa : Hid _ := hMa'
      have HMb : Hid _ := hMb
      have HNa : Hid (∀ k, some b5 = some k → ∀ a, qa = some a → a.block ≠ k) := by
        intro k hk a ha
        cases hk
        obtain ⟨g, rfl, hl, _⟩ := hMa'.at_ a ha
        simp only; omega
      have HNb : Hid (∀ k, some b5 = some k → ∀ a, qb = some a → a.block ≠ k) := by
        intro k hk a ha
        cases hk
        obtain ⟨g, rfl, hl, _⟩ := hMb.at_ a ha
        simp only; omega
      clear hAc hBc hMa' hMb
      go_wp2_with (first
        | (at_make; refine wpList_make_own wc rfl _ _ 22 rfl wc.heap.size 5 i5 (.int .u8 0) 1 Try.underlying22 hi5 hz5 hs5 _ _ _ (na + nb) rfl rfl (by omega) hby hmx (Nat.le_refl _) ?_; intro w1 o1 q1; rw [hb5] at o1; have m1 := msg_grown HMa.out q1 (fun k hk => by cases hk); have n1 := msg_grown HMb.out q1 (fun k hk => by cases hk))
        | (at_builtin; refine wpList_append_fits_any w1 rfl (.tmp 62) (.tmp 63) 22 rfl b5 5 i5 1 Try.underlying22 hi5 hs5 b5 0 (na + nb) [] rfl o1 qa na na (A.map byteC) rfl (by simp [hla]) (msg_none m1 hla) (msg_cells m1) HAc.out (by omega) ?_; intro w2 o2 q2; rw [Nat.zero_add, List.nil_append] at o2; have n2 := msg_grown n1 q2 HNb.out)
        | (at_builtin; refine wpList_append_fits_any w2 rfl (.tmp 65) (.tmp 66) 22 rfl b5 5 i5 1 Try.underlying22 hi5 hs5 b5 na (na + nb) (A.map byteC) rfl o2 qb nb nb (B.map byteC) rfl (by simp [hlb]) (msg_none n2 hlb) (msg_cells n2) HBc.out (by omega) ?_; intro w3 o3 q3))
      have hMa3 : Msg w3 qa A := msg_grown (msg_grown m1 q2 HNa.out) q3 HNa.out
      have hMb3 : Msg w3 qb B := msg_grown n2 q3 HNb.out
      have hMc3 : Msg w3 (some ⟨b5, 0, none⟩) (A ++ B) := by
        rw [← List.map_append] at o3
        refine msg_own (fun c hc => ?_) o3 (by rw [List.length_append, hla, hlb])
        rcases List.mem_append.1 hc with hc | hc
        · exact msg_small HMa.out c hc
        · exact msg_small HMb.out c hc
      have bel3 : Below w.heap.size w w3 := by
        have k1 : w.heap.size ≤ b5 := by rw [← hb5]; exact bel.size
        have k2 := Below.grown bel q1 bel.size (fun k hk => by cases hk)
        have k3 := Below.grown k2 q2 k2.size (fun k hk => by cases hk; exact k1)
        exact Below.grown k3 q3 k3.size (fun k hk => by cases hk; exact k1)
      have hlc : (A ++ B).length = na + nb := by rw [List.length_append, hla, hlb]
      clear HMa HMb HNa HNb HAc HBc m1 n1 n2 o1 o2 o3 q1 q2 q3 bel hi5 hz5 hs5 hby5 hby hmx
      refine (collect w3 qa na A hMa3 hla (by omega)).mono ?_
      rintro e w4 ⟨a1, a2, a3, valsA, rfl, oa1, oa2, oa3, hVa, bel4⟩
      have hMa4 := hMa3.below bel4
      have hMb4 := hMb3.below bel4
      have hMc4 := hMc3.below bel4
      have bel34 := bel3.trans (bel4.mono bel3.size)
      obtain ⟨SA, hSA⟩ : ∃ SA, S A 0 = SA := ⟨_, rfl⟩
      rw [hSA] at oa1 oa2 hVa ⊢
      go_wp2_with fail
      refine (collect w4 qb nb B hMb4 hlb (by omega)).mono ?_
      rintro e w5 ⟨b1, b2, b3, valsB, rfl, ob1, ob2, ob3, hVb, bel5⟩
      have hMa5 := hMa4.below bel5
      have hMb5 := hMb4.below bel5
      have hMc5 := hMc4.below bel5
      have bel35 := bel34.trans (bel5.mono bel34.size)
      obtain ⟨SB, hSB⟩ : ∃ SB, S B 0 = SB := ⟨_, rfl⟩
      rw [hSB] at ob1 ob2 hVb ⊢
      go_wp2_with fail
      refine (collect w5 (some ⟨b5, 0, none⟩) (na + nb) (A ++ B) hMc5 hlc (by omega)).mono ?_
      rintro e w6 ⟨c1, c2, c3, valsC, rfl, oc1, oc2, oc3, hVc, bel6⟩
      have hMa6 := hMa5.below bel6
      have hMb6 := hMb5.below bel6
      have hMc6 := hMc5.below bel6
      have bel36 := bel35.trans (bel6.mono bel35.size)
      obtain ⟨SC, hSC⟩ : ∃ SC, S (A ++ B) 0 = SC := ⟨_, rfl⟩
      rw [hSC] at oc1 oc2 hVc ⊢
      go_wp2_with fail
      refine (model w6 qa na na A hMa6 hla (by omega)).mono ?_
      rintro e w7 ⟨y1, y2, y3, y4, rfl, _, bel7⟩
      rw [hSA]
      have hMa7 := hMa6.below bel7
      have hMb7 := hMb6.below bel7
      have hMc7 := hMc6.below bel7
      have bel37 := bel36.trans (bel7.mono bel36.size)
      have pa1 := ((oa1.below bel5).below bel6).below bel7
      have pa2 := ((oa2.below bel5).below bel6).below bel7
      have pa3 := ((oa3.below bel5).below bel6).below bel7
      have pb1 := (ob1.below bel6).below bel7
      have pb2 := (ob2.below bel6).below bel7
      have pb3 := (ob3.below bel6).below bel7
      have pc1 := oc1.below bel7
      have pc2 := oc2.below bel7
      have pc3 := oc3.below bel7
      have lA := scan_len A (A.length + 1) 0 (Nat.zero_le _)
      have lB := scan_len B (B.length + 1) 0 (Nat.zero_le _)
      have lC := scan_len (A ++ B) ((A ++ B).length + 1) 0 (Nat.zero_le _)
      have mA : ∀ x ∈ SA.1, x.s ≤ x.e ∧ x.e ≤ A.length ∧ 0 < x.e := fun x hx => scan_mem A _ _ x (by rw [← hSA] at hx; exact hx)
      have mB : ∀ x ∈ SB.1, x.s ≤ x.e ∧ x.e ≤ B.length ∧ 0 < x.e := fun x hx => scan_mem B _ _ x (by rw [← hSB] at hx; exact hx)
      change (S A 0).1.length + 0 ≤ _ at lA
      change (S B 0).1.length + 0 ≤ _ at lB
      change (S (A ++ B) 0).1.length + 0 ≤ _ at lC
      obtain ⟨R, hR1, hR2⟩ := S_cat A B
      rw [hSA, hSC] at hR1
      rw [hSA, hSB, hSC] at hR2
      rw [hSA] at lA
      rw [hSB] at lB
      rw [hSC] at lC
      obtain ⟨FA, rA⟩ := SA
      obtain ⟨FB, rB⟩ := SB
      obtain ⟨FC, rC⟩ := SC
      simp only at pa1 pa2 pa3 pb1 pb2 pb3 pc1 pc2 pc3 lA lB lC mA mB hR1 hR2 hVa hVb hVc ⊢
      rw [hla] at lA mA
      rw [hlb] at lB mB
      rw [hlc] at lC
      clear hSA hSB hSC oa1 oa2 oa3 ob1 ob2 ob3 oc1 oc2 oc3 hMa3 hMa4 hMa5 hMa6 hMb3 hMb4 hMb5 hMb6 hMc3 hMc4 hMc5 hMc6 bel3 bel4 bel5 bel6 bel7 bel34 bel35 bel36
      obtain ⟨MA, hMA⟩ : ∃ M, FA.length = M := ⟨_, rfl⟩
      obtain ⟨MB, hMB⟩ : ∃ M, FB.length = M := ⟨_, rfl⟩
      obtain ⟨MC, hMC⟩ : ∃ M, FC.length = M := ⟨_, rfl⟩
      have hva : valsA.length = MA := by rw [hVa.1]; exact hMA
      have hvb : valsB.length = MB := by rw [hVb.1]; exact hMB
      have hvc : valsC.length = MC := by rw [hVc.1]; exact hMC
      have hAC : MA ≤ MC := by
        have := congrArg List.length hR1
        rw [List.length_append] at this
        omega
      have hABC : rA = true → MC = MA + MB ∧ rC = rB := fun h => by
        obtain ⟨e1, e2⟩ := hR2 h
        have := congrArg List.length hR1
        rw [List.length_append, e1, List.length_map] at this
        exact ⟨by omega, e2⟩
      obtain ⟨a1p, a1c, rfl, _⟩ := pa1.len
      obtain ⟨a2p, a2c, rfl, _⟩ := pa2.len
      obtain ⟨a3p, a3c, rfl, _⟩ := pa3.len
      obtain ⟨b1p, b1c, rfl, _⟩ := pb1.len
      obtain ⟨b2p, b2c, rfl, _⟩ := pb2.len
      obtain ⟨b3p, b3c, rfl, _⟩ := pb3.len
      obtain ⟨c1p, c1c, rfl, _⟩ := pc1.len
      obtain ⟨c2p, c2c, rfl, _⟩ := pc2.len
      obtain ⟨c3p, c3c, rfl, _⟩ := pc3.len
      simp only [List.length_map, hMA, hMB, hMC, hva, hvb, hvc] at pa1 pa2 pa3 pb1 pb2 pb3 pc1 pc2 pc3 ⊢
      have HO : Hid (Own w7 w3.heap.size 31 (.slice a1p MA a1c) (FA.map fV) ∧ Own w7 w3.heap.size 31 (.slice a2p MA a2c) (FA.map wV) ∧ Own w7 w3.heap.size 22 (.slice a3p MA a3c) valsA ∧
        Own w7 w4.heap.size 31 (.slice b1p MB b1c) (FB.map fV) ∧ Own w7 w4.heap.size 31 (.slice b2p MB b2c) (FB.map wV) ∧ Own w7 w4.heap.size 22 (.slice b3p MB b3c) valsB ∧
        Own w7 w5.heap.size 31 (.slice c1p MC c1c) (FC.map fV) ∧ Own w7 w5.heap.size 31 (.slice c2p MC c2c) (FC.map wV) ∧ Own w7 w5.heap.size 22 (.slice c3p MC c3c) valsC) := ⟨pa1, pa2, pa3, pb1, pb2, pb3, pc1, pc2, pc3⟩
      have HV : Hid (_ ∧ _ ∧ _) := ⟨hVa, hVb, hVc⟩
      have HM : Hid (_ ∧ _ ∧ _) := ⟨hMa7, hMb7, hMc7⟩
      have HB : Hid _ := bel37
      have HME : Hid (_ ∧ _) := ⟨mA, mB⟩
      have HR : Hid (_ ∧ _ ∧ _) := ⟨hR1, hR2, hABC⟩
      have HL : Hid (_ ∧ _ ∧ _ ∧ _ ∧ _ ∧ _) := ⟨hla, hlb, hlc, hMA, hMB, hMC⟩
      have lA' : MA ≤ 65536 := by omega
      have lB' : MB ≤ 65536 := by omega
      have lC' : MC ≤ 131072 := by omega
      have lAC : ¬ (MC : Int) < (MA : Int) := by omega
      clear pa1 pa2 pa3 pb1 pb2 pb3 pc1 pc2 pc3 hVa hVb hVc hMa7 hMb7 hMc7 bel37 mA mB hR1 hR2 hABC hla hlb hlc hMA hMB hMC hva hvb hvc lA lB lC
      go_wp2_with fail
      go_loopw [25] (fun i wr => ∃ k : Nat, k ≤ MA ∧ i = .int .i64 k ∧ Hid (Below w7.heap.size w7 wr)) (fun i _ => MA - (intOf i).toNat)
      case atStart => exact ⟨0, Nat.zero_le _, rfl, Below.refl _ _⟩
      case round =>
        obtain ⟨k, hk, rfl, HW⟩ := hrel
        by_cases hlt : k < MA
        · obtain ⟨o1, o2, o3, _, _, _, o7, o8, o9⟩ := HO.out
          obtain ⟨hla, hlb, hlc, hMA, hMB, hMC⟩ := HL.out
          obtain ⟨x, hx⟩ : ∃ x, FA[k]? = some x := ⟨_, List.getElem?_eq_getElem (by omega)⟩
          have hxc : FC[k]? = some x := by rw [HR.out.1, List.getElem?_append_left (by omega)]; exact hx
          have hxm := HME.out.1 x (List.mem_of_getElem? hx)
          obtain ⟨a, va, hv, hva⟩ := HV.out.2.2.2 k x hxc
          obtain ⟨a', va', hv', hva'⟩ := HV.out.1.2 k x hx
          obtain ⟨g1, rfl, c1⟩ := (o1.below HW.out).at (i := k) (x := fV x) (by rw [List.getElem?_map, hx]; rfl)
          obtain ⟨g2, rfl, c2⟩ := (o2.below HW.out).at (i := k) (x := wV x) (by rw [List.getElem?_map, hx]; rfl)
          obtain ⟨g3, rfl, c3⟩ := (o3.below HW.out).at hv'
          obtain ⟨g7, rfl, c7⟩ := (o7.below HW.out).at (i := k) (x := fV x) (by rw [List.getElem?_map, hxc]; rfl)
          obtain ⟨g8, rfl, c8⟩ := (o8.below HW.out).at (i := k) (x := wV x) (by rw [List.getElem?_map, hxc]; rfl)
          obtain ⟨g9, rfl, c9⟩ := (o9.below HW.out).at hv
          obtain ⟨g, rfl, hg, hH⟩ := (HM.out.1.below HW.out).some_of (i := 0) (by omega)
          obtain ⟨g', hg', _, hH'⟩ := (HM.out.2.2.below HW.out).at_ _ rfl
          cases hg'
          obtain ⟨h7, h8, h9⟩ := hxm
          obtain ⟨xf, xw, xs, xe⟩ := x
          simp only [fV, wV] at c1 c2 c3 c7 c8 c9 h7 h8 h9 hva hva'
          have hlt' : (k : Int) < (MA : Int) := by omega
          have hlt2 : (k : Int) < (MC : Int) := by omega
          have HH : Hid (Has wr b5 (A ++ B) ∧ Has wr g A) := ⟨hH', hH⟩
          have HS8 : Hid (∀ u : World, Has u b5 (A ++ B) ∧ Has u g A → Calls Try.prog 8 #[.slice (some a) (xe - xs) va, .slice (some a') (xe - xs) va'] u (TruePost u)) := fun u hu =>
            same u a a' (xe - xs) va va' (by omega) (alike_of hu.1 hu.2 (s := xs) (s' := xs) (fun h => by obtain ⟨g0, e0, e1⟩ := hva (by omega); cases e0; exact e1) (fun h => by obtain ⟨g0, e0, e1⟩ := hva' (by omega); cases e0; exact e1) (fun i hi => ⟨A[xs + i]'(by omega), by rw [List.getElem?_append_left (by omega)]; exact List.getElem?_eq_getElem _, List.getElem?_eq_getElem _⟩))
          clear o1 o2 o3 o7 o8 o9 hx hxc hv hv' hva hva' hH hH' hla hlb hlc hMA hMB hMC
          go_wp2_with fail
          go_region_held3 (fun u => u.cell? ⟨g7, k, none⟩ = some (.int .u64 (xf : Int)) ∧ u.cell? ⟨g1, k, none⟩ = some (.int .u64 (xf : Int)) ∧ u.cell? ⟨g8, k, none⟩ = some (.int .u64 (xw : Int)) ∧ u.cell? ⟨g2, k, none⟩ = some (.int .u64 (xw : Int)) ∧ u.cell? ⟨g9, k, none⟩ = some (.slice (some a) (xe - xs) va) ∧ u.cell? ⟨g3, k, none⟩ = some (.slice (some a') (xe - xs) va'))
            (first | exact ⟨c7, c1, c8, c2, c9, c3⟩ | exact ⟨d7, d1, d8, d2, d9, d3⟩)
            (first
              | (go_at_call 8; refine (HS8.out _ (by exact HH.out)).mono ?_; rintro e w8 ⟨rfl, hb8⟩; have d7 := below_cells hb8 (by exact c7); have d1 := below_cells hb8 (by exact c1); have d8 := below_cells hb8 (by exact c8); have d2 := below_cells hb8 (by exact c2); have d9 := below_cells hb8 (by exact c9); have d3 := below_cells hb8 (by exact c3)))
          have HX : Hid (Below w7.heap.size w7 w8) := HW.out.trans (Below.mono (B := wr.heap.size) ⟨hb8.os, hb8.tape, hb8.output, hb8.size, hb8.block⟩ HW.out.size)
          clear hb8 d7 d1 d8 d2 d9 d3 c7 c1 c8 c2 c9 c3
          go_wp2
          go_roundw
          case rel => exact ⟨k + 1, by omega, by go_num, HX⟩
          case measure => simp [intOf]; omega
        · have hlt' : ¬ (k : Int) < (MA : Int) := by omega
          cases rA with
          | false =>
            go_wp2
            go_ret
            exact ⟨rfl, HB.out.trans (HW.out.mono HB.out.size)⟩
          | true =>
            obtain ⟨hMC', hrC⟩ := HR.out.2.2 rfl
            subst hrC
            have hMCi : (MC : Int) = (MA : Int) + (MB : Int) := by omega
            have hMCb : ((MC : Int) == (MA : Int) + (MB : Int)) = true := by simp [hMCi]
            clear hMC' hMCi
            obtain ⟨wq, rfl⟩ : ∃ x, x = wr := ⟨_, rfl⟩
            have HW2 : Hid (Below w.heap.size w wq) := HB.out.trans (HW.out.mono HB.out.size)
            go_wp2_with fail
            go_loopw [26] (fun i ws => ∃ k : Nat, k ≤ MB ∧ i = .int .i64 k ∧ Hid (Below wq.heap.size wq ws)) (fun i _ => MB - (intOf i).toNat)
            case atStart => exact ⟨0, Nat.zero_le _, rfl, Below.refl _ _⟩
            case round =>
              obtain ⟨j, hj, rfl, HWs0⟩ := hrel
              have HWs : Hid (Below w7.heap.size w7 wr) := HW.out.trans (HWs0.out.mono HW.out.size)
              by_cases hjt : j < MB
              · obtain ⟨_, _, _, o1, o2, o3, o7, o8, o9⟩ := HO.out
                obtain ⟨hla, hlb, hlc, hMA, hMB, hMC⟩ := HL.out
                obtain ⟨x, hx⟩ : ∃ x, FB[j]? = some x := ⟨_, List.getElem?_eq_getElem (by omega)⟩
                obtain ⟨K, hK⟩ : ∃ K, K = MA + j := ⟨_, rfl⟩
                have hxc : FC[K]? = some (sh A.length x) := by
                  rw [hK, HR.out.1, List.getElem?_append_right (by omega), (HR.out.2.1 (by trivial)).1, List.getElem?_map, hMA, Nat.add_sub_cancel_left, hx]; rfl
                have hxm := HME.out.2 x (List.mem_of_getElem? hx)
                obtain ⟨a, va, hv, hva⟩ := HV.out.2.2.2 K _ hxc
                obtain ⟨a', va', hv', hva'⟩ := HV.out.2.1.2 j x hx
                obtain ⟨g1, rfl, c1⟩ := (o1.below HWs.out).at (i := j) (x := fV x) (by rw [List.getElem?_map, hx]; rfl)
                obtain ⟨g2, rfl, c2⟩ := (o2.below HWs.out).at (i := j) (x := wV x) (by rw [List.getElem?_map, hx]; rfl)
                obtain ⟨g3, rfl, c3⟩ := (o3.below HWs.out).at hv'
                obtain ⟨g7, rfl, c7⟩ := (o7.below HWs.out).at (i := K) (x := fV (sh A.length x)) (by rw [List.getElem?_map, hxc]; rfl)
                obtain ⟨g8, rfl, c8⟩ := (o8.below HWs.out).at (i := K) (x := wV (sh A.length x)) (by rw [List.getElem?_map, hxc]; rfl)
                obtain ⟨g9, rfl, c9⟩ := (o9.below HWs.out).at hv
                obtain ⟨g, rfl, hg, hH⟩ := (HM.out.2.1.below HWs.out).some_of (i := 0) (by omega)
                obtain ⟨g', hg', _, hH'⟩ := (HM.out.2.2.below HWs.out).at_ _ rfl
                cases hg'
                obtain ⟨h7, h8, h9⟩ := hxm
                obtain ⟨xf, xw, xs, xe⟩ := x
                simp only [fV, wV, sh, hla] at c1 c2 c3 c7 c8 c9 h7 h8 h9 hva hva'
                have exs : na + xe - (na + xs) = xe - xs := by omega
                rw [exs] at c9
                have hjt' : (j : Int) < (MB : Int) := by omega
                have hjt2 : (K : Int) < (MC : Int) := by have := HR.out.2.2 (by trivial); omega
                have HK : Hid ((MA : Int) + (j : Int) = (K : Int)) := by unfold Hid; omega
                have HH : Hid (Has wr b5 (A ++ B) ∧ Has wr g B) := ⟨hH', hH⟩
                have HS8 : Hid (∀ u : World, Has u b5 (A ++ B) ∧ Has u g B → Calls Try.prog 8 #[.slice (some a) (xe - xs) va, .slice (some a') (xe - xs) va'] u (TruePost u)) := fun u hu =>
                  same u a a' (xe - xs) va va' (by omega) (alike_of hu.1 hu.2 (s := na + xs) (s' := xs) (fun h => by obtain ⟨g0, e0, e1⟩ := hva (by omega); cases e0; exact e1) (fun h => by obtain ⟨g0, e0, e1⟩ := hva' (by omega); cases e0; exact e1) (fun i hi => ⟨B[xs + i]'(by omega), by rw [List.getElem?_append_right (by omega), hla, Nat.add_assoc, Nat.add_sub_cancel_left]; exact List.getElem?_eq_getElem _, List.getElem?_eq_getElem _⟩))
                clear o1 o2 o3 o7 o8 o9 hx hxc hv hv' hva hva' hH hH' hla hlb hlc hMA hMB hMC exs hK
                go_wp2_with fail
                rw [HK.out]
                go_region_held3 (fun u => u.cell? ⟨g7, K, none⟩ = some (.int .u64 (xf : Int)) ∧ u.cell? ⟨g1, j, none⟩ = some (.int .u64 (xf : Int)) ∧ u.cell? ⟨g8, K, none⟩ = some (.int .u64 (xw : Int)) ∧ u.cell? ⟨g2, j, none⟩ = some (.int .u64 (xw : Int)) ∧ u.cell? ⟨g9, K, none⟩ = some (.slice (some a) (xe - xs) va) ∧ u.cell? ⟨g3, j, none⟩ = some (.slice (some a') (xe - xs) va'))
                  (first | exact ⟨c7, c1, c8, c2, c9, c3⟩ | exact ⟨d7, d1, d8, d2, d9, d3⟩)
                  (first
                    | (go_at_call 8; refine (HS8.out _ (by exact HH.out)).mono ?_; rintro e w8 ⟨rfl, hb8⟩; have d7 := below_cells hb8 (by exact c7); have d1 := below_cells hb8 (by exact c1); have d8 := below_cells hb8 (by exact c8); have d2 := below_cells hb8 (by exact c2); have d9 := below_cells hb8 (by exact c9); have d3 := below_cells hb8 (by exact c3)))
                have HX : Hid (Below wq.heap.size wq w8) := HWs0.out.trans (Below.mono (B := wr.heap.size) ⟨hb8.os, hb8.tape, hb8.output, hb8.size, hb8.block⟩ HWs0.out.size)
                clear hb8 d7 d1 d8 d2 d9 d3 c7 c1 c8 c2 c9 c3
                go_wp2
                go_roundw
                case rel => exact ⟨j + 1, by omega, by go_num, HX⟩
                case measure => simp [intOf]; omega
              · have hjt' : ¬ (j : Int) < (MB : Int) := by omega
                go_wp2
                go_ret
                exact ⟨rfl, HW2.out.trans (HWs0.out.mono HW2.out.size)⟩

end Go.Proofs.Qxb6625448a
