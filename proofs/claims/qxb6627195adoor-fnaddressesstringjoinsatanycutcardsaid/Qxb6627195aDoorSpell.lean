/-
  Seat b6627195aD: 'zzSpellQuads' (8).
-/
import Derived.Test.Qxb6627195aDoorQuads
namespace Go.Proofs.Qxb6627195aDoor
open Go.RowKit
set_option linter.unusedSimpArgs false
set_option linter.unusedVariables false

theorem Quads.grown' {w w' : World} {g gq : Nat} {Q : List Q4} (h : Quads w (some ⟨gq, 0, none⟩) Q) (hb : w.grownBy w' (some g)) (hne : gq ≠ g) : Quads w' (some ⟨gq, 0, none⟩) Q :=
  ⟨h.ok, h.nil, fun a ha => by
    obtain ⟨g', e, hr⟩ := h.row a ha
    cases ha
    cases e
    exact ⟨_, rfl, hr.of_block (hb.block _ hr.lt (by simpa using hne))⟩⟩

def SpellAt (w wr : World) (g cap : Nat) (p : Option Addr) (Q : List Q4) (v i : Value) : Prop :=
  ∃ k : Nat, k ≤ Q.length ∧ i = .int .i64 k ∧ v = .slice (some ⟨g, 0, none⟩) (spellTo Q k).length cap ∧ Buf wr g cap (spellTo Q k) ∧ Quads wr p Q ∧ Below w.heap.size w wr

def QuadAt (w wr : World) (g cap : Nat) (p : Option Addr) (Q : List Q4) (q : Q4) (t : List UInt8) (v i : Value) : Prop :=
  ∃ k : Nat, k ≤ 4 ∧ i = .int .i64 k ∧ v = .slice (some ⟨g, 0, none⟩) (t ++ quadTo q k).length cap ∧ Buf wr g cap (t ++ quadTo q k) ∧ Quads wr p Q ∧ Below w.heap.size w wr

set_option maxHeartbeats 1000000 in
theorem zzSpell (w : World) (p : Option Addr) (c : Nat) (Q : List Q4) (hQ : Quads w p Q) (hn : Q.length ≤ 262144) :
    Calls Tryd.prog 8 #[.slice p Q.length c] w fun e w' => e = .returned (.string (strOf (spell Q))) ∧ Hid (Below w.heap.size w w') := by
  obtain ⟨N, hN⟩ : ∃ N, Q.length = N := ⟨_, rfl⟩
  rw [hN]
  have hN' : N ≤ 262144 := by omega
  obtain ⟨w0, hw0⟩ : ∃ w0, w.alloc (.cells (madeCells #[.int .u8 0] (16 * N)) 5) = w0 := ⟨_, rfl⟩
  obtain ⟨g, hg⟩ : ∃ g, w.heap.size = g := ⟨_, rfl⟩
  have hmk := made_bytes w (16 * N) (by omega)
  rw [hw0, hg] at hmk
  rw [show ((16 * N : Nat) : Int) = 16 * (N : Int) by omega] at hmk
  have b0 : Below w.heap.size w w0 := by rw [← hw0]; exact (Below.refl _ _).alloc (Nat.le_refl _) _
  have B0 : Buf w0 g (16 * N) [] := by rw [← hw0, ← hg]; exact buf_made' w (16 * N) (by unfold maxLen; omega)
  have HB : Hid (Below w.heap.size w w0) := b0
  have HQ0 : Hid (Quads w0 p Q) := hQ.grown b0
  have hpg : ∀ a, p = some a → a.block < g := by
    intro a ha
    obtain ⟨gg, rfl, hr⟩ := hQ.row a ha
    have := hr.lt
    simp only; omega
  clear b0 hw0 hQ
  go_enter Tryd.func8, Tryd.ntmps8
  go_wp2
  go_loopw [3, 4] (fun v i wr => Hid (SpellAt w wr g (16 * N) p Q v i)) (fun _ i _ => N - (intOf i).toNat)
  case atStart => exact ⟨0, Nat.zero_le _, rfl, rfl, B0, HQ0, HB⟩
  case round =>
    obtain ⟨k, hk, rfl, rfl, hB, hQ, hbel⟩ := hrel.out
    clear hrel
    rw [hN] at hk
    by_cases hlt : k < N
    · have hk' : k < Q.length := by omega
      obtain ⟨gq, rfl, hgq, _⟩ := hQ.at hk'
      have hok := hQ.nth_ok hk'
      have HST := spell_step (nth_some hk')
      have HST : Hid (spellTo Q (k + 1) = spellTo Q k ++ ((if 0 < k then [44] else []) ++ quad (nth Q k))) := HST
      have hle : (spellTo Q k).length ≤ 16 * k := spell_length Q k
      obtain ⟨t, ht⟩ : ∃ t, spellTo Q k = t := ⟨_, rfl⟩
      rw [ht] at hB hle ⊢
      obtain ⟨q, hq⟩ : ∃ q, nth Q k = q := ⟨_, rfl⟩
      have HH : Hid (_ ∧ _ ∧ _) := ⟨HST.out, ht, hq⟩
      rw [hq] at hok
      have hroom := spell_room Q k
      rw [ht] at hroom
      have hne : gq ≠ g := by
        have := hpg _ rfl
        simp only at this; omega
      clear HST hpg
      by_cases h0 : 0 < k
      · go_wp2_with (at_builtin; refine wpList_append_buf _ rfl (.tmp 18) (.tmp 19) rfl g _ (16 * N) t _ 44 rfl rfl rfl hB rfl (by omega) ?_; intro w1 B1 G1)
        have HC0 : Hid (QuadAt w w1 g (16 * N) (some ⟨gq, 0, none⟩) Q q (t ++ [44]) (.slice (some ⟨g, 0, none⟩) (t.length + 1) (16 * N)) (.int .i64 0)) :=
          ⟨0, by omega, rfl, by simp [quadTo], by simpa [quadTo] using B1, hQ.grown' G1 hne, hbel.grown G1 hbel.size (by intro k hk; cases hk; omega)⟩
        obtain ⟨T, hT⟩ : ∃ T, t ++ [44] = T := ⟨_, rfl⟩
        have hTl : T.length ≤ 16 * k := by rw [← hT]; have := hroom h0; simpa using this
        rw [hT] at HC0
        have HTS : Hid (spellTo Q (k + 1) = T ++ quadTo q 4) := by unfold Hid; rw [HH.out.1, HH.out.2.1, HH.out.2.2, if_pos h0, ← hT]; simp [quad]
        clear hT
        clear B1 G1 hB hQ hbel
        go_loopw [3, 5] (fun v i wr => Hid (QuadAt w wr g (16 * N) (some ⟨gq, 0, none⟩) Q q T v i)) (fun _ i _ => 4 - (intOf i).toNat)
        case atStart => exact HC0
        case round =>
          obtain ⟨j, hj, rfl, rfl, hB, hQ, hbel⟩ := hrel.out
          clear hrel HC0
          by_cases hj4 : j < 4
          · obtain ⟨gq', hp, hgq', hcell⟩ := hQ.at hk'
            simp only [Option.some.injEq, Addr.mk.injEq, and_true] at hp
            subst hp
            have hc := hcell j hj4
            rw [HH.out.2.2] at hc
            have hv := Q4.at_lt hok j
            have hqs : Hid (quadTo q (j + 1) = quadTo q j ++ ((if 0 < j then [46] else []) ++ dec (q.at j))) := rfl
            obtain ⟨v, hv'⟩ : ∃ v, q.at j = v := ⟨_, rfl⟩
            have hdl := dec_length v
            have hql := quadTo_length q j
            have hqr := quadTo_room q j
            obtain ⟨u, hu⟩ : ∃ u, T ++ quadTo q j = u := ⟨_, rfl⟩
            have hul : u.length ≤ 16 * k + 4 * j := by rw [← hu, List.length_append]; omega
            have hul' : 0 < j → u.length + 1 ≤ 16 * k + 4 * j := by intro h; have := hqr h; rw [← hu, List.length_append]; omega
            rw [hv'] at hc hv
            rw [hu] at hB ⊢
            have HU : Hid (T ++ quadTo q (j + 1) = u ++ ((if 0 < j then [46] else []) ++ dec v)) := by
              unfold Hid; rw [hqs.out, ← hu, hv']; simp
            clear hcell hu hqs hv' hql hqr
            by_cases hj0 : 0 < j
            · have hul := hul' hj0
              clear hul'
              go_wp2_with (at_builtin; refine wpList_append_buf _ rfl (.tmp 27) (.tmp 28) rfl g _ (16 * N) u _ 46 rfl rfl rfl hB rfl (by omega) ?_; intro w2 B2 G2; have hc2 := (World.cell?_of_block (w := wr) (G2.block gq hgq' (by simpa using hne))).trans hc)
              refine (appendDec_at w2 g (16 * N) _ (u ++ [46]) v (by simp) hv B2 (by omega)).mono ?_
              rintro e w3 ⟨rfl, H, H'⟩
              have HX : Hid (QuadAt w w3 g (16 * N) (some ⟨gq, 0, none⟩) Q q T (.slice (some ⟨g, 0, none⟩) (u.length + 1 + (dec v).length) (16 * N)) (.int .i64 ((j + 1 : Nat) : Int))) := by
                have e1 : T ++ quadTo q (j + 1) = u ++ [46] ++ dec v := by rw [HU.out, if_pos hj0]; simp
                refine ⟨j + 1, by omega, rfl, ?_, ?_, (hQ.grown' G2 hne).grown' H'.out hne, ?_⟩
                · rw [e1]; simp <;> omega
                · rw [e1]; exact H.out
                · exact hbel.grown (G2.trans H'.out) hbel.size (by intro k hk; cases hk; omega)
              clear H H' B2 G2 hB hQ hbel hc hc2 HU hul
              go_wp2
              go_roundw
              case rel =>
                exact HX
              case measure => simp [intOf]; omega
            · clear hul'
              go_wp2_with fail
              refine (appendDec_at wr g (16 * N) _ u v rfl hv hB (by omega)).mono ?_
              rintro e w3 ⟨rfl, H, H'⟩
              have HX : Hid (QuadAt w w3 g (16 * N) (some ⟨gq, 0, none⟩) Q q T (.slice (some ⟨g, 0, none⟩) (u.length + (dec v).length) (16 * N)) (.int .i64 ((j + 1 : Nat) : Int))) := by
                have e1 : T ++ quadTo q (j + 1) = u ++ dec v := by rw [HU.out, if_neg hj0]; simp
                refine ⟨j + 1, by omega, rfl, ?_, ?_, hQ.grown' H'.out hne, ?_⟩
                · rw [e1]; simp <;> omega
                · rw [e1]; exact H.out
                · exact hbel.grown H'.out hbel.size (by intro k hk; cases hk; omega)
              clear H H' hB hQ hbel hc HU hul
              go_wp2
              go_roundw
              case rel => exact HX
              case measure => simp [intOf]; omega
          · obtain rfl : j = 4 := by omega
            have HX : Hid (SpellAt w wr g (16 * N) (some ⟨gq, 0, none⟩) Q (.slice (some ⟨g, 0, none⟩) (T ++ quadTo q 4).length (16 * N)) (.int .i64 ((k + 1 : Nat) : Int))) := by
              have e1 : spellTo Q (k + 1) = T ++ quadTo q 4 := HTS.out
              refine ⟨k + 1, by omega, rfl, ?_, ?_, hQ, hbel⟩
              · rw [e1]
              · rw [e1]; exact hB
            clear hB hQ hbel
            go_wp2
            go_roundw
            case rel => exact HX
            case measure => simp [intOf]; omega
      · go_wp2
        have HC0 : Hid (QuadAt w wr g (16 * N) (some ⟨gq, 0, none⟩) Q q t (.slice (some ⟨g, 0, none⟩) t.length (16 * N)) (.int .i64 0)) :=
          ⟨0, by omega, rfl, by simp [quadTo], by simpa [quadTo] using hB, hQ, hbel⟩
        obtain ⟨T, hT⟩ : ∃ T, t = T := ⟨_, rfl⟩
        have hTl : T.length ≤ 16 * k := by rw [← hT]; omega
        have HTS : Hid (spellTo Q (k + 1) = T ++ quadTo q 4) := by unfold Hid; rw [HH.out.1, HH.out.2.1, HH.out.2.2, if_neg h0, ← hT]; simp [quad]
        rw [hT] at HC0 ⊢
        clear hB hQ hbel
        go_loopw [3, 5] (fun v i wr => Hid (QuadAt w wr g (16 * N) (some ⟨gq, 0, none⟩) Q q T v i)) (fun _ i _ => 4 - (intOf i).toNat)
        case atStart => exact HC0
        case round =>
          obtain ⟨j, hj, rfl, rfl, hB, hQ, hbel⟩ := hrel.out
          clear hrel HC0
          by_cases hj4 : j < 4
          · obtain ⟨gq', hp, hgq', hcell⟩ := hQ.at hk'
            simp only [Option.some.injEq, Addr.mk.injEq, and_true] at hp
            subst hp
            have hc := hcell j hj4
            rw [HH.out.2.2] at hc
            have hv := Q4.at_lt hok j
            have hqs : Hid (quadTo q (j + 1) = quadTo q j ++ ((if 0 < j then [46] else []) ++ dec (q.at j))) := rfl
            obtain ⟨v, hv'⟩ : ∃ v, q.at j = v := ⟨_, rfl⟩
            have hdl := dec_length v
            have hql := quadTo_length q j
            have hqr := quadTo_room q j
            obtain ⟨u, hu⟩ : ∃ u, T ++ quadTo q j = u := ⟨_, rfl⟩
            have hul : u.length ≤ 16 * k + 4 * j := by rw [← hu, List.length_append]; omega
            have hul' : 0 < j → u.length + 1 ≤ 16 * k + 4 * j := by intro h; have := hqr h; rw [← hu, List.length_append]; omega
            rw [hv'] at hc hv
            rw [hu] at hB ⊢
            have HU : Hid (T ++ quadTo q (j + 1) = u ++ ((if 0 < j then [46] else []) ++ dec v)) := by
              unfold Hid; rw [hqs.out, ← hu, hv']; simp
            clear hcell hu hqs hv' hql hqr
            by_cases hj0 : 0 < j
            · have hul := hul' hj0
              clear hul'
              go_wp2_with (at_builtin; refine wpList_append_buf _ rfl (.tmp 27) (.tmp 28) rfl g _ (16 * N) u _ 46 rfl rfl rfl hB rfl (by omega) ?_; intro w2 B2 G2; have hc2 := (World.cell?_of_block (w := wr) (G2.block gq hgq' (by simpa using hne))).trans hc)
              refine (appendDec_at w2 g (16 * N) _ (u ++ [46]) v (by simp) hv B2 (by omega)).mono ?_
              rintro e w3 ⟨rfl, H, H'⟩
              have HX : Hid (QuadAt w w3 g (16 * N) (some ⟨gq, 0, none⟩) Q q T (.slice (some ⟨g, 0, none⟩) (u.length + 1 + (dec v).length) (16 * N)) (.int .i64 ((j + 1 : Nat) : Int))) := by
                have e1 : T ++ quadTo q (j + 1) = u ++ [46] ++ dec v := by rw [HU.out, if_pos hj0]; simp
                refine ⟨j + 1, by omega, rfl, ?_, ?_, (hQ.grown' G2 hne).grown' H'.out hne, ?_⟩
                · rw [e1]; simp <;> omega
                · rw [e1]; exact H.out
                · exact hbel.grown (G2.trans H'.out) hbel.size (by intro k hk; cases hk; omega)
              clear H H' B2 G2 hB hQ hbel hc hc2 HU hul
              go_wp2
              go_roundw
              case rel =>
                exact HX
              case measure => simp [intOf]; omega
            · clear hul'
              go_wp2_with fail
              refine (appendDec_at wr g (16 * N) _ u v rfl hv hB (by omega)).mono ?_
              rintro e w3 ⟨rfl, H, H'⟩
              have HX : Hid (QuadAt w w3 g (16 * N) (some ⟨gq, 0, none⟩) Q q T (.slice (some ⟨g, 0, none⟩) (u.length + (dec v).length) (16 * N)) (.int .i64 ((j + 1 : Nat) : Int))) := by
                have e1 : T ++ quadTo q (j + 1) = u ++ dec v := by rw [HU.out, if_neg hj0]; simp
                refine ⟨j + 1, by omega, rfl, ?_, ?_, hQ.grown' H'.out hne, ?_⟩
                · rw [e1]; simp <;> omega
                · rw [e1]; exact H.out
                · exact hbel.grown H'.out hbel.size (by intro k hk; cases hk; omega)
              clear H H' hB hQ hbel hc HU hul
              go_wp2
              go_roundw
              case rel => exact HX
              case measure => simp [intOf]; omega
          · obtain rfl : j = 4 := by omega
            have HX : Hid (SpellAt w wr g (16 * N) (some ⟨gq, 0, none⟩) Q (.slice (some ⟨g, 0, none⟩) (T ++ quadTo q 4).length (16 * N)) (.int .i64 ((k + 1 : Nat) : Int))) := by
              have e1 : spellTo Q (k + 1) = T ++ quadTo q 4 := HTS.out
              refine ⟨k + 1, by omega, rfl, ?_, ?_, hQ, hbel⟩
              · rw [e1]
              · rw [e1]; exact hB
            clear hB hQ hbel
            go_wp2
            go_roundw
            case rel => exact HX
            case measure => simp [intOf]; omega
    · have hke : k = N := by omega
      subst hke
      have hcv := hB.toString _ rfl
      have he : spellTo Q k = spell Q := by unfold spellTo; rw [← hN, List.take_length]
      rw [he] at hcv ⊢
      clear hB hQ
      go_wp2
      go_ret
      exact ⟨rfl, hbel⟩

end Go.Proofs.Qxb6627195aDoor
