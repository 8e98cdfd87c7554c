/-
  Seat b6625448a: 'otlpproto.EachField' (10), with the visitor of 'ZZEachFieldCollect'.
-/
import Derived.Test.Qxb6625448aVisit
import Derived.Deep.DeepCutAuto
import Derived.Deep.CutRange
namespace Go.Proofs.Qxb6625448a
open Go.RowKit
set_option linter.unusedSimpArgs false
set_option linter.unusedVariables false

theorem VE_end {B : List Nat} {pos w : Nat} (h : B.length ≤ pos) : VE B pos w = none := by
  unfold VE
  split
  · rw [GE_eq, vi_none h]; rfl
  · unfold flat
    rw [vi_none h]
    split
    · rfl
    split
    · rw [if_pos (by omega)]
    split
    · rw [if_pos (by omega)]
    split <;> rfl

set_option maxHeartbeats 2000000 in
set_option maxRecDepth 8000 in
theorem skip_empty (w : World) (a : Addr) (wt : Nat) (hwt : wt < 8) : Calls Try.prog 15 #[.slice (some a) 0 0, .int .u64 (wt : Int)] w fun e w' => e = .returned (.int .i64 (-1)) ∧ w' = w := by
  have hcases : wt = 0 ∨ wt = 1 ∨ wt = 2 ∨ wt = 3 ∨ wt = 4 ∨ wt = 5 ∨ wt = 6 ∨ wt = 7 := by omega
  rcases hcases with rfl | rfl | rfl | rfl | rfl | rfl | rfl | rfl
  · go_enter Try.func15, Try.ntmps15
    go_wp2_with fail
    refine wp_loop_rounds 1 ?_
    rw [rounds_succ]
    go_wp2_with fail
    refine (uvarint_empty w _ _).mono ?_
    rintro e w1 ⟨v, rfl, ⟨m, hm1, hm2, rfl⟩, hw⟩
    subst w1
    go_wp2
    go_ret
    exact ⟨rfl, rfl⟩
  · go_enter Try.func15, Try.ntmps15
    go_wp2_with fail
    refine wp_loop_rounds 1 ?_
    rw [rounds_succ]
    go_wp2
    go_ret
    exact ⟨rfl, rfl⟩
  · go_enter Try.func15, Try.ntmps15
    go_wp2_with fail
    refine wp_loop_rounds 1 ?_
    rw [rounds_succ]
    go_wp2_with fail
    refine (uvarint_empty w _ _).mono ?_
    rintro e w1 ⟨v, rfl, ⟨m, hm1, hm2, rfl⟩, hw⟩
    subst w1
    go_wp2
    go_ret
    exact ⟨rfl, rfl⟩
  · go_enter Try.func15, Try.ntmps15
    go_wp2_with fail
    refine wp_loop_rounds 1 ?_
    rw [rounds_succ]
    go_wp2_with fail
    refine (uvarint_empty w _ _).mono ?_
    rintro e w1 ⟨v, rfl, ⟨m, hm1, hm2, rfl⟩, hw⟩
    subst w1
    go_wp2
    go_ret
    exact ⟨rfl, rfl⟩
  · go_enter Try.func15, Try.ntmps15
    go_wp2_with fail
    refine wp_loop_rounds 1 ?_
    rw [rounds_succ]
    go_wp2
    go_ret
    exact ⟨rfl, rfl⟩
  · go_enter Try.func15, Try.ntmps15
    go_wp2_with fail
    refine wp_loop_rounds 1 ?_
    rw [rounds_succ]
    go_wp2
    go_ret
    exact ⟨rfl, rfl⟩
  · go_enter Try.func15, Try.ntmps15
    go_wp2_with fail
    refine wp_loop_rounds 1 ?_
    rw [rounds_succ]
    go_wp2
    go_ret
    exact ⟨rfl, rfl⟩
  · go_enter Try.func15, Try.ntmps15
    go_wp2_with fail
    refine wp_loop_rounds 1 ?_
    rw [rounds_succ]
    go_wp2
    go_ret
    exact ⟨rfl, rfl⟩

/-- The values that the visitor was handed: slices of the message. -/
def Vals (p : Option Addr) (L : List Fd) (vals : List Value) : Prop :=
  vals.length = L.length ∧ ∀ (i : Nat) (x : Fd), L[i]? = some x → ∃ a c, vals[i]? = some (.slice (some a) (x.e - x.s) c) ∧ (x.s < x.e → ∃ g, p = some ⟨g, 0, none⟩ ∧ a = ⟨g, x.s, none⟩)

theorem Vals.snoc {p : Option Addr} {L : List Fd} {vals : List Value} (h : Vals p L vals) (x : Fd) (a : Addr) (n c : Nat) (hn : n = x.e - x.s) (ha : x.s < x.e → ∃ g, p = some ⟨g, 0, none⟩ ∧ a = ⟨g, x.s, none⟩) :
    Vals p (L ++ [x]) (vals ++ [.slice (some a) n c]) := by
  obtain ⟨hl, hv⟩ := h
  refine ⟨by simp [hl], fun i y hy => ?_⟩
  by_cases hi : i < L.length
  · rw [List.getElem?_append_left hi] at hy
    obtain ⟨a', c', h1, h2⟩ := hv i y hy
    exact ⟨a', c', by rw [List.getElem?_append_left (by omega)]; exact h1, h2⟩
  · rw [List.getElem?_append_right (by omega)] at hy
    have h0 : i - L.length = 0 := by
      have := (List.getElem?_eq_some_iff.1 hy).1
      simp at this; omega
    rw [h0] at hy
    simp at hy
    subst hy
    refine ⟨a, c, ?_, ha⟩
    rw [List.getElem?_append_right (by omega), show i - vals.length = 0 by omega, hn]
    rfl

theorem Msg.low {w w' : World} {p : Option Addr} {B : List Nat} {b : Nat} (h : Msg w p B) (hp : ∀ a, p = some a → a.block < b) (hb : Below b w w') : Msg w' p B :=
  ⟨h.nil, fun a ha => by
    obtain ⟨g, e, hl, hh⟩ := h.at_ a ha
    have hlt := hp a ha
    rw [e] at hlt
    refine ⟨g, e, Nat.lt_of_lt_of_le hl hb.size, fun i c hi => ?_⟩
    obtain ⟨h1, h2⟩ := hh i c hi
    exact ⟨(hb.cell (p := ⟨g, i, none⟩) hlt).trans h1, h2⟩⟩

def EachAt (w wr : World) (base b1 b2 b3 : Nat) (p : Option Addr) (B : List Nat) (i : Value) : Prop :=
  ∃ (q : Nat) (L : List Fd) (vals : List Value), q ≤ B.length ∧ i = .int .i64 (q : Int) ∧ L.length ≤ q ∧ Upto B q L ∧ Three wr base b1 b2 b3 (L.map fV) (L.map wV) vals ∧ Vals p L vals ∧ Below b1 w wr

def EachPost (w : World) (base b1 b2 b3 : Nat) (p : Option Addr) (B : List Nat) (e : Ending) (w' : World) : Prop :=
  e = .returned (.bool (S B 0).2) ∧ ∃ vals, Three w' base b1 b2 b3 ((S B 0).1.map fV) ((S B 0).1.map wV) vals ∧ Vals p (S B 0).1 vals ∧ Below b1 w w'

set_option maxHeartbeats 4000000 in
set_option maxRecDepth 8000 in
theorem each (w : World) (base b1 b2 b3 : Nat) (h12 : b1 < b2) (h23 : b2 < b3) (h3 : b3 < base) (hbase : base ≤ w.heap.size) (hT : Three w base b1 b2 b3 [] [] []) (p : Option Addr) (N : Nat) (B : List Nat) (hM : Msg w p B) (hpb : ∀ a, p = some a → a.block < b1) (hN : B.length = N) (hl : N ≤ 1048576) :
    Calls Try.prog 10 #[.slice p N N, .func (.func 11) #[] #[.pointer (some ⟨b1, 0, none⟩), .pointer (some ⟨b2, 0, none⟩), .pointer (some ⟨b3, 0, none⟩)]] w (EachPost w base b1 b2 b3 p B) := by
  go_enter Try.func10, Try.ntmps10
  go_wp2_with fail
  go_loopw [5] (fun i wr => Hid (EachAt w wr base b1 b2 b3 p B i)) (fun i _ => N - (intOf i).toNat)
  case atStart => exact ⟨0, [], [], Nat.zero_le _, rfl, Nat.le_refl _, Upto.start B, hT, ⟨rfl, fun i x hx => by simp at hx⟩, Below.refl _ _⟩
  case round =>
    obtain ⟨q, L, vals, hq, rfl, hL, hU, hR, hVa, hb⟩ := hrel.out
    clear hrel
    rw [hN] at hq
    by_cases hlt : q < N
    · have hM' := hM.low hpb hb
      obtain ⟨g, rfl, hg, hH⟩ := hM'.some_of (i := q) (by omega)
      have hV := uvarint wr g q (N - q) (N - q) B hH (by omega) (by omega)
      go_wp2_with fail
      refine hV.mono ?_
      rintro e w1 ⟨v, rfl, hv0, hw⟩
      subst w1
      clear hV
      cases hv : vi B q with
      | none =>
        rw [hv] at hv0
        obtain ⟨m, hm1, hm2, rfl⟩ := hv0
        have HE : Hid (EachPost w base b1 b2 b3 (some ⟨g, 0, none⟩) B (.returned (.bool false)) wr) := by
          have := hU.noTag (by omega) hv
          exact ⟨by rw [this], vals, by rw [this]; exact hR, by rw [this]; exact hVa, hb⟩
        clear hv hU hR hVa hM' hb hH hM hT
        go_wp2
        go_ret
        exact HE
      | some x =>
        obtain ⟨t, n⟩ := x
        rw [hv] at hv0
        have hv1 : v = .tuple #[.int .u64 (t : Int), .int .i64 (n : Int)] := hv0
        subst hv1
        obtain ⟨f1, f2, f3, f4⟩ := vi_facts hv
        rw [hN] at f3
        have hb7 := and7 t f4
        have hw8 : t % 8 < 8 := by omega
        obtain ⟨wt, hwt⟩ : ∃ wt, t % 8 = wt := ⟨_, rfl⟩
        rw [hwt] at hb7 hw8
        by_cases hend : q + n < N
        · have hC := skip wr g (q + n) (N - (q + n)) B hH (by omega) (by omega) (by omega) wt hw8
          go_wp2_with fail
          refine hC.mono ?_
          rintro e w1 ⟨rfl, hw⟩
          subst w1
          clear hC
          cases he : VE B (q + n) wt with
          | none =>
            have HE : Hid (EachPost w base b1 b2 b3 (some ⟨g, 0, none⟩) B (.returned (.bool false)) wr) := by
              have := hU.noValue (by omega) hv (by rw [hwt]; exact he)
              exact ⟨by rw [this], vals, by rw [this]; exact hR, by rw [this]; exact hVa, hb⟩
            simp only [skipV]
            clear hv hv0 hU hR hVa hM' hb hH hM hT he
            go_wp2
            go_ret
            exact HE
          | some en =>
            have hstep := hU.step (by omega) hv (by rw [hwt]; exact he)
            obtain ⟨s1, s2, s3⟩ := start_facts he
            rw [hwt] at hstep
            simp only [skipV]
            obtain ⟨st, hst⟩ : ∃ st, startOf B (q + n) wt = st := ⟨_, rfl⟩
            rw [hst] at hstep s1 s2
            rw [hN] at s3
            obtain ⟨d, hd⟩ : ∃ d, en - (q + n) = d := ⟨_, rfl⟩
            have hen : en = q + n + d := by omega
            rw [hd]
            have hdN : q + n + d ≤ N := by omega
            have HV : Hid (wt = 2 → ∃ l m, vi B (q + n) = some (l, m) ∧ d = m + l ∧ st = q + n + m) := by
              intro h2
              subst h2
              obtain ⟨l, m, h3, h4, h5⟩ := two_facts he
              exact ⟨l, m, h3, by omega, by rw [← hst, h5]⟩
            have HN : Hid (¬ wt = 2 → st = q + n) := by
              intro h2; rw [← hst]; simp [startOf, h2]
            have HEN : Hid (en = q + n + d) := hen
            have HH : Hid (Has wr g B) := hH
            have HS : Hid (Upto B en (L ++ [(⟨t / 8, wt, st, en⟩ : Fd)])) := hstep
            have HR : Hid (Three wr base b1 b2 b3 (L.map fV) (L.map wV) vals) := hR
            have HVa : Hid (Vals (some ⟨g, 0, none⟩) L vals) := hVa
            have HBel : Hid (Below b1 w wr) := hb
            have hbw : base ≤ wr.heap.size := Nat.le_trans hbase hb.size
            clear hv hv0 hU hR hVa hM' hb hH hM hT he hst hstep hd hen
            go_upto_if 47 with fail
            go_cut [10] (fun v wx => ∃ (a : Addr) (k c : Nat), v = .slice (some a) k c ∧ Hid (k = en - st ∧ (st < en → a = ⟨g, st, none⟩)) ∧ wx = wr)
            case first =>
              by_cases h2 : wt = 2
              · obtain ⟨l, m, h3, h4, h5⟩ := HV.out h2
                obtain ⟨k1, k2, k3, k4⟩ := vi_facts h3
                have hV2 := uvarint wr g (q + n) (N - (q + n)) d (B.take (q + n + d)) (fun i c hi => HH.out i c (by rw [List.getElem?_take] at hi; split at hi; exact hi; cases hi)) (by rw [List.length_take]; omega) (by omega)
                rw [vi_take h3 (by omega)] at hV2
                subst h2
                have hmd : m ≤ d := by omega
                have HX : Hid (_ ∧ _) := ⟨h4, h5⟩
                clear h3 h4 h5
                go_wp2_with fail
                refine hV2.mono ?_
                rintro e w1 ⟨v, rfl, hv, hw⟩
                subst w1
                have hv1 : v = .tuple #[.int .u64 (l : Int), .int .i64 (m : Int)] := hv
                subst hv1
                clear hV2 hv
                by_cases hmc : m < N - (q + n)
                · go_wp2
                  go_meet
                  case rel => exact ⟨_, _, _, rfl, ⟨by rw [HEN.out, HX.out.2]; omega, fun _ => by rw [HX.out.2]⟩, rfl⟩
                · go_wp2
                  go_meet
                  case rel => exact ⟨_, _, _, rfl, ⟨by rw [HEN.out, HX.out.2]; omega, fun h => absurd h (by rw [HEN.out, HX.out.2]; omega)⟩, rfl⟩
              · have h4 := HN.out h2
                have h2' : ((wt : Int) == 2) = false := by rw [beq_eq_false_iff_ne]; omega
                have h4' : Hid _ := h4
                clear h4
                go_wp2
                go_meet
                case rel => exact ⟨_, _, _, rfl, ⟨by rw [HEN.out, h4'.out, Nat.add_sub_cancel_left], fun _ => by rw [h4'.out]⟩, rfl⟩
            case rest =>
              obtain ⟨a, k, c, rfl, HK, hw⟩ := hcut
              subst wc
              have hXl : (L.map fV).length ≤ 4194304 := by rw [List.length_map]; omega
              have hYl : (L.map wV).length ≤ 4194304 := by rw [List.length_map]; omega
              have hZl : vals.length ≤ 4194304 := by rw [HVa.out.1]; omega
              have hC := visit wr base b1 b2 b3 h12 h23 h3 hbw (L.map fV) (L.map wV) vals HR.out hXl hYl hZl ((t : Int) / 8) (wt : Int) (some a) k c
              go_wp2_with fail
              refine hC.mono ?_
              rintro e w1 ⟨rfl, hT1, hB1⟩
              have HX : Hid (EachAt w w1 base b1 b2 b3 (some ⟨g, 0, none⟩) B (.int .i64 (en : Int))) := by
                refine ⟨en, L ++ [(⟨t / 8, wt, st, en⟩ : Fd)], vals ++ [.slice (some a) k c], by omega, rfl, by simp; omega, HS.out, ?_, ?_, HBel.out.trans hB1⟩
                · rw [List.map_append, List.map_append]; exact hT1
                · exact HVa.out.snoc _ a k c HK.out.1 (fun h => ⟨g, rfl, HK.out.2 h⟩)
              clear hC hT1 hB1
              have hqd : (q : Int) + n + d = en := by rw [HEN.out]; omega
              go_wp2
              go_roundw
              case rel => exact HX
              case measure => simp [intOf]; omega
        · have he : VE B (q + n) wt = none := VE_end (by omega)
          have HE : Hid (EachPost w base b1 b2 b3 (some ⟨g, 0, none⟩) B (.returned (.bool false)) wr) := by
            have := hU.noValue (by omega) hv (by rw [hwt]; exact he)
            exact ⟨by rw [this], vals, by rw [this]; exact hR, by rw [this]; exact hVa, hb⟩
          obtain rfl : N = q + n := by omega
          clear hv hU hR hVa hM' hb hH hM hT he
          go_wp2_with fail
          refine (skip_empty wr _ wt hw8).mono ?_
          rintro e w1 ⟨rfl, hw⟩
          subst w1
          go_wp2
          go_ret
          exact HE
    · have HE : Hid (EachPost w base b1 b2 b3 p B (.returned (.bool true)) wr) := by
        have := hU.ended (by omega)
        exact ⟨by rw [this], vals, by rw [this]; exact hR, by rw [this]; exact hVa, hb⟩
      clear hU hR hVa hb hM hT
      go_wp2
      go_ret
      exact HE

end Go.Proofs.Qxb6625448a
