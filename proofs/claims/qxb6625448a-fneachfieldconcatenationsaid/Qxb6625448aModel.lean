/-
  Seat b6625448a: 'zzOtlpB1Model' (7).
-/
import Derived.Test.Qxb6625448aOwn
import Derived.Test.Qxb6625448aScan
import Derived.Deep.DeepCutAuto
import Derived.Deep.CutRange
namespace Go.Proofs.Qxb6625448a
open Go.RowKit
set_option linter.unusedSimpArgs false
set_option linter.unusedVariables false

def fV (x : Fd) : Value := .int .u64 (x.f : Int)
def wV (x : Fd) : Value := .int .u64 (x.w : Int)
def sV (x : Fd) : Value := .int .i64 (x.s : Int)
def eV (x : Fd) : Value := .int .i64 (x.e : Int)

/-- What lies behind a message's pointer. -/
structure Msg (w : World) (p : Option Addr) (B : List Nat) : Prop where
  nil : p = none → B = []
  at_ : ∀ a, p = some a → ∃ g, a = ⟨g, 0, none⟩ ∧ g < w.heap.size ∧ Has w g B

theorem Has.below {w w' : World} {g : Nat} {B : List Nat} (h : Has w g B) (hb : Below w.heap.size w w') : Has w' g B := fun i c hi => by
  obtain ⟨h1, h2⟩ := h i c hi
  exact ⟨(hb.cell (World.block_lt_of_cell? w _ h1)).trans h1, h2⟩

theorem Msg.below {w w' : World} {p : Option Addr} {B : List Nat} (h : Msg w p B) (hb : Below w.heap.size w w') : Msg w' p B :=
  ⟨h.nil, fun a ha => by
    obtain ⟨g, e, hl, hh⟩ := h.at_ a ha
    exact ⟨g, e, Nat.lt_of_lt_of_le hl hb.size, hh.below hb⟩⟩

theorem Msg.some_of {w : World} {p : Option Addr} {B : List Nat} (h : Msg w p B) {i : Nat} (hi : i < B.length) : ∃ g, p = some ⟨g, 0, none⟩ ∧ g < w.heap.size ∧ Has w g B := by
  cases p with
  | none => rw [h.nil rfl] at hi; simp at hi
  | some a =>
    obtain ⟨g, rfl, hl, hh⟩ := h.at_ a rfl
    exact ⟨g, rfl, hl, hh⟩

/-- The four slices. -/
structure Four (w : World) (base : Nat) (v1 v2 v3 v4 : Value) (L : List Fd) : Prop where
  o1 : Own w base 31 v1 (L.map fV)
  o2 : Own w base 31 v2 (L.map wV)
  o3 : Own w base 3 v3 (L.map sV)
  o4 : Own w base 3 v4 (L.map eV)
  a12 : Apart v1 v2
  a13 : Apart v1 v3
  a14 : Apart v1 v4
  a23 : Apart v2 v3
  a24 : Apart v2 v4
  a34 : Apart v3 v4

def ModelAt (w wr : World) (p : Option Addr) (B : List Nat) (v1 v2 v3 v4 i : Value) : Prop :=
  ∃ (q : Nat) (L : List Fd), q ≤ B.length ∧ i = .int .i64 (q : Int) ∧ L.length ≤ q ∧ Upto B q L ∧ Four wr w.heap.size v1 v2 v3 v4 L ∧ Msg wr p B ∧ Below w.heap.size w wr

def ModelPost (w : World) (B : List Nat) (e : Ending) (w' : World) : Prop :=
  ∃ v1 v2 v3 v4, e = .returned (.tuple #[v1, v2, v3, v4, .bool (S B 0).2]) ∧ Four w' w.heap.size v1 v2 v3 v4 (S B 0).1 ∧ Below w.heap.size w w'

set_option maxHeartbeats 2000000 in
set_option maxRecDepth 8000 in
theorem model (w : World) (p : Option Addr) (cap N : Nat) (B : List Nat) (hM : Msg w p B) (hN : B.length = N) (hl : N ≤ 1048576) :
    Calls Try.prog 7 #[.slice p N cap] w (ModelPost w B) := by
  go_enter Try.func7, Try.ntmps7
  go_wp2_with fail
  go_loopw [7, 8, 9, 10, 11] (fun v1 v2 v3 v4 i wr => Hid (ModelAt w wr p B v1 v2 v3 v4 i)) (fun _ _ _ _ i _ => N - (intOf i).toNat)
  case atStart =>
    exact ⟨0, [], Nat.zero_le _, rfl, Nat.le_refl _, Upto.start B, ⟨World.ownsRow_nil _ _ _ _, World.ownsRow_nil _ _ _ _, World.ownsRow_nil _ _ _ _, World.ownsRow_nil _ _ _ _, .inl rfl, .inl rfl, .inl rfl, .inl rfl, .inl rfl, .inl rfl⟩, hM, Below.refl _ _⟩
  case round =>
    obtain ⟨q, L, hq, rfl, hL, hU, hF, hM', hb⟩ := hrel.out
    clear hrel
    rw [hN] at hq
    by_cases hlt : q < N
    · obtain ⟨g, rfl, hg, hH⟩ := hM'.some_of (i := q) (by omega)
      have hV := varint wr g q cap N B hH hN hl hq
      go_wp2_with fail
      refine hV.mono ?_
      rintro e w1 ⟨rfl, hw⟩
      subst w1
      clear hV
      cases hv : vi B q with
      | none =>
        have HE : Hid (ModelPost w B (.returned (.tuple #[u7, u8, u9, u10, .bool false])) wr) := by
          have := hU.noTag (by omega) hv
          exact ⟨u7, u8, u9, u10, by rw [this], by rw [this]; exact hF, hb⟩
        simp only [varOut]
        clear hv hU hF hM' hb hH
        go_wp2
        refine bodyPost_ret (v := .tuple #[u7, u8, u9, u10, .bool false]) (by simp [results, Try.results7, go_sem]) rfl HE
      | some x =>
        obtain ⟨t, n⟩ := x
        obtain ⟨f1, f2, f3, f4⟩ := vi_facts hv
        rw [hN] at f3
        have hb7 := and7 t f4
        have hw8 : t % 8 < 8 := by omega
        have hC := valueEnd_any wr g (q + n) cap N B hH hN hl f3 (t % 8) hw8
        simp only [varOut]
        rw [show ((q + n : Nat) : Int) = (q : Int) + (n : Int) by omega] at hC
        obtain ⟨wt, hwt⟩ : ∃ wt, t % 8 = wt := ⟨_, rfl⟩
        rw [hwt] at hb7 hC hw8
        go_wp2_with fail
        refine hC.mono ?_
        rintro e w1 ⟨rfl, hw⟩
        subst w1
        clear hC
        cases he : VE B (q + n) wt with
        | none =>
          have HE : Hid (ModelPost w B (.returned (.tuple #[u7, u8, u9, u10, .bool false])) wr) := by
            have := hU.noValue (by omega) hv (by rw [hwt]; exact he)
            exact ⟨u7, u8, u9, u10, by rw [this], by rw [this]; exact hF, hb⟩
          simp only [endV]
          clear hv hU hF hM' hb hH he
          go_wp2
          refine bodyPost_ret (v := .tuple #[u7, u8, u9, u10, .bool false]) (by simp [results, Try.results7, go_sem]) rfl HE
        | some en =>
          have hstep := hU.step (by omega) hv (by rw [hwt]; exact he)
          obtain ⟨s1, s2, s3⟩ := start_facts he
          rw [hwt] at hstep
          simp only [endV]
          obtain ⟨st, hst⟩ : ∃ st, startOf B (q + n) wt = st := ⟨_, rfl⟩
          rw [hst] at hstep s1 s2
          rw [hN] at s3
          have hsmall : st ≤ N := by omega
          have HV : Hid (wt = 2 → ∃ l m, vi B (q + n) = some (l, m) ∧ st = q + n + m) := by
            intro h2
            subst h2
            obtain ⟨l, m, h3, _, h4⟩ := two_facts he
            exact ⟨l, m, h3, by rw [← hst, h4]⟩
          have HN : Hid (¬ wt = 2 → st = q + n) := by
            intro h2; rw [← hst]; simp [startOf, h2]
          have HM : Hid (Has wr g B) := hH
          have HF : Hid _ := hF
          have HS : Hid _ := hstep
          have hHb : w.heap.size ≤ wr.heap.size := hb.size
          have HBel : Hid _ := hb
          have HMs : Hid _ := hM'
          clear hv hU hF hM' hb hH he hst hstep
          go_upto_if 55 with fail
          go_cut [17] (fun v wx => v = .int .i64 (st : Int) ∧ wx = wr)
          case first =>
            by_cases h2 : wt = 2
            · obtain ⟨l, m, h3, h4⟩ := HV.out h2
              have hV2 := varint wr g (q + n) cap N B HM.out hN hl f3
              rw [h3] at hV2
              rw [show ((q + n : Nat) : Int) = (q : Int) + (n : Int) by omega] at hV2
              subst h2
              go_wp2_with fail
              refine hV2.mono ?_
              rintro e w1 ⟨rfl, hw⟩
              subst w1
              obtain ⟨k1, k2, k3, k4⟩ := vi_facts h3
              simp only [varOut]
              clear hV2 h3
              go_wp2
              go_meet
              case rel => exact ⟨by rw [h4]; go_num, rfl⟩
            · have h4 := HN.out h2
              have h2' : ((wt : Int) == 2) = false := by rw [beq_eq_false_iff_ne]; omega
              go_wp2
              go_meet
              case rel => exact ⟨by rw [h4]; go_num, rfl⟩
          case rest =>
            obtain ⟨rfl, hw⟩ := hcut
            subst wc
            obtain ⟨o1, o2, o3, o4, a12, a13, a14, a23, a24, a34⟩ := HF.out
            have hLs : (L.map fV).length ≤ 4194304 := by rw [List.length_map]; omega
            have hLw : (L.map wV).length ≤ 4194304 := by rw [List.length_map]; omega
            have hLst : (L.map sV).length ≤ 4194304 := by rw [List.length_map]; omega
            have hLe : (L.map eV).length ≤ 4194304 := by rw [List.length_map]; omega
            obtain ⟨X1, hX1⟩ : ∃ X, L.map fV = X := ⟨_, rfl⟩
            obtain ⟨X2, hX2⟩ : ∃ X, L.map wV = X := ⟨_, rfl⟩
            obtain ⟨X3, hX3⟩ : ∃ X, L.map sV = X := ⟨_, rfl⟩
            obtain ⟨X4, hX4⟩ : ∃ X, L.map eV = X := ⟨_, rfl⟩
            have HXs : Hid (_ ∧ _ ∧ _ ∧ _) := ⟨hX1, hX2, hX3, hX4⟩
            rw [hX1] at o1 hLs
            rw [hX2] at o2 hLw
            rw [hX3] at o3 hLst
            rw [hX4] at o4 hLe
            clear hX1 hX2 hX3 hX4 HF
            go_wp2_with (first
              | (at_builtin; refine wpList_push wr rfl (.tmp 66) (.tmp 69) 24 31 8 _ rfl Try.underlying24 info31 rfl (by omega) w.heap.size u7 X1 _ rfl rfl o1 rfl hLs hHb ?_; intro g1 c1 w1 p1 q1 r1; have o2' := Own.other (n := X1.length + 1) (cap := c1) o2 a12.symm q1 r1; have o3' := Own.other (n := X1.length + 1) (cap := c1) o3 a13.symm q1 r1; have o4' := Own.other (n := X1.length + 1) (cap := c1) o4 a14.symm q1 r1; have hHb1 : w.heap.size ≤ w1.heap.size := Nat.le_trans hHb q1.size)
              | (at_builtin; refine wpList_push w1 rfl (.tmp 71) (.tmp 73) 24 31 8 _ rfl Try.underlying24 info31 rfl (by omega) w.heap.size u8 X2 _ rfl rfl o2'.1 rfl hLw hHb1 ?_; intro g2 c2 w2 p2 q2 r2; have n1 := Own.other (n := X2.length + 1) (cap := c2) p1 o2'.2.symm q2 r2; have n3 := Own.other (n := X2.length + 1) (cap := c2) o3'.1 a23.symm q2 r2; have n4 := Own.other (n := X2.length + 1) (cap := c2) o4'.1 a24.symm q2 r2; have hHb2 : w.heap.size ≤ w2.heap.size := Nat.le_trans hHb1 q2.size)
              | (at_builtin; refine wpList_push w2 rfl (.tmp 75) (.tmp 77) 28 3 8 _ rfl Try.underlying28 info3 rfl (by omega) w.heap.size u9 X3 _ rfl rfl n3.1 rfl hLst hHb2 ?_; intro g3 c3 w3 p3 q3 r3; have m1 := Own.other (n := X3.length + 1) (cap := c3) n1.1 o3'.2.symm q3 r3; have m2 := Own.other (n := X3.length + 1) (cap := c3) p2 n3.2.symm q3 r3; have m4 := Own.other (n := X3.length + 1) (cap := c3) n4.1 a34.symm q3 r3; have hHb3 : w.heap.size ≤ w3.heap.size := Nat.le_trans hHb2 q3.size)
              | (at_builtin; refine wpList_push w3 rfl (.tmp 79) (.tmp 81) 28 3 8 _ rfl Try.underlying28 info3 rfl (by omega) w.heap.size u10 X4 _ rfl rfl m4.1 rfl hLe hHb3 ?_; intro g4 c4 w4 p4 q4 r4))
            have HX : Hid (ModelAt w w4 (some ⟨g, 0, none⟩) B (.slice (some ⟨g1, 0, none⟩) (X1.length + 1) c1) (.slice (some ⟨g2, 0, none⟩) (X2.length + 1) c2) (.slice (some ⟨g3, 0, none⟩) (X3.length + 1) c3) (.slice (some ⟨g4, 0, none⟩) (X4.length + 1) c4) (.int .i64 (en : Int))) := by
              have k1 := Own.other (n := X4.length + 1) (cap := c4) m1.1 o4'.2.symm q4 r4
              have k2 := Own.other (n := X4.length + 1) (cap := c4) m2.1 n4.2.symm q4 r4
              have k3 := Own.other (n := X4.length + 1) (cap := c4) p3 m4.2.symm q4 r4
              have b1 := HBel.out.grown q1 hHb (fun k hk => (World.ownsRow.lt o1 k hk).1)
              have b2 := Below.grown b1 q2 hHb1 (fun k hk => (World.ownsRow.lt o2'.1 k hk).1)
              have b3 := Below.grown b2 q3 hHb2 (fun k hk => (World.ownsRow.lt n3.1 k hk).1)
              have b4 := Below.grown b3 q4 hHb3 (fun k hk => (World.ownsRow.lt m4.1 k hk).1)
              obtain ⟨hX1, hX2, hX3, hX4⟩ := HXs.out
              have hup : Upto B en (L ++ [(⟨t / 8, wt, st, en⟩ : Fd)]) := HS.out
              refine ⟨en, L ++ [(⟨t / 8, wt, st, en⟩ : Fd)], by omega, rfl, by simp; omega, hup, ?_, hM.below b4, b4⟩
              have e1 : (L ++ [(⟨t / 8, wt, st, en⟩ : Fd)]).map fV = X1 ++ [.int .u64 ((t : Int) / 8)] := by rw [List.map_append, hX1]; rfl
              have e2 : (L ++ [(⟨t / 8, wt, st, en⟩ : Fd)]).map wV = X2 ++ [.int .u64 (wt : Int)] := by rw [List.map_append, hX2]; rfl
              have e3 : (L ++ [(⟨t / 8, wt, st, en⟩ : Fd)]).map sV = X3 ++ [.int .i64 (st : Int)] := by rw [List.map_append, hX3]; rfl
              have e4 : (L ++ [(⟨t / 8, wt, st, en⟩ : Fd)]).map eV = X4 ++ [.int .i64 (en : Int)] := by rw [List.map_append, hX4]; rfl
              exact ⟨by rw [e1]; exact k1.1, by rw [e2]; exact k2.1, by rw [e3]; exact k3.1, by rw [e4]; exact p4, n1.2, m1.2, k1.2, m2.2, k2.2, k3.2⟩
            clear p1 q1 r1 p2 q2 r2 p3 q3 r3 p4 q4 r4 m1 m2 m4 n1 n3 n4 o2' o3' o4' o1 o2 o3 o4 a12 a13 a14 a23 a24 a34
            go_roundw
            case rel => exact HX
            case measure => simp [intOf]; omega
    · have HE : Hid (ModelPost w B (.returned (.tuple #[u7, u8, u9, u10, .bool true])) wr) := by
        have := hU.ended (by omega)
        exact ⟨u7, u8, u9, u10, by rw [this], by rw [this]; exact hF, hb⟩
      clear hU hF hM' hb
      go_wp2
      refine bodyPost_ret (v := .tuple #[u7, u8, u9, u10, .bool true]) (by simp [results, Try.results7, go_sem]) rfl HE

end Go.Proofs.Qxb6625448a
