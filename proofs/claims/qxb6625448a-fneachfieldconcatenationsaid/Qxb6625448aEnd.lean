/-
  Seat b6625448a: 'zzOtlpB1ValueEnd' (13), 'zzOtlpB1GroupEnd' (16): they call one another.
-/
import Derived.Test.Qxb6625448aVar
namespace Go.Proofs.Qxb6625448a
open Go.RowKit
set_option linter.unusedSimpArgs false
set_option linter.unusedVariables false

def endV (o : Option Nat) : Value :=
  match o with
  | some p => .int .i64 (p : Int)
  | none => .int .i64 (-1)

theorem and7 (t : Nat) (h : t < 18446744073709551616) : bits BinOp.and IntKind.u64 (t : Int) 7 = ((t % 8 : Nat) : Int) := by
  have h1 : bits BinOp.and IntKind.u64 (t : Int) ((7 : Nat) : Int) = ((t &&& 7 : Nat) : Int) := u64_and_nat t 7 h (by omega)
  have h2 : t &&& 7 = t % 8 := Nat.and_two_pow_sub_one_eq_mod t 3
  rw [← h2]
  exact h1

def EndPost (w : World) (o : Option Nat) (e : Ending) (w' : World) : Prop := e = .returned (endV o) ∧ w' = w

set_option maxHeartbeats 1000000 in
set_option maxRecDepth 8000 in
theorem valueEnd (w : World) (g pos cap N : Nat) (B : List Nat) (hB : Has w g B) (hN : B.length = N) (hl : N ≤ 1048576) (hp : pos ≤ N) (wt : Nat) (hwt : wt < 8)
    (hG : wt = 3 → Calls Try.prog 16 #[.slice (some ⟨g, 0, none⟩) N cap, .int .i64 (pos : Int)] w (EndPost w (GE B pos))) :
    Calls Try.prog 13 #[.slice (some ⟨g, 0, none⟩) N cap, .int .i64 (pos : Int), .int .u64 (wt : Int)] w (EndPost w (VE B pos wt)) := by
  have hV := varint w g pos cap N B hB hN hl hp
  have hcases : wt = 0 ∨ wt = 1 ∨ wt = 2 ∨ wt = 3 ∨ wt = 4 ∨ wt = 5 ∨ wt = 6 ∨ wt = 7 := by omega
  rcases hcases with rfl | rfl | rfl | rfl | rfl | rfl | rfl | rfl
  · -- a varint
    have HE : Hid (VE B pos 0 = (vi B pos).map fun x => pos + x.2) := by simp [Hid, VE, flat]
    clear hG hB
    go_enter Try.func13, Try.ntmps13
    go_wp2_with fail
    refine hV.mono ?_
    rintro e w1 ⟨rfl, hw⟩
    subst w1
    cases hv : vi B pos with
    | none =>
      have HE2 : Hid (VE B pos 0 = none) := by unfold Hid; rw [HE.out, hv]; rfl
      simp only [varOut]
      clear hV
      go_wp2
      go_ret
      exact ⟨by rw [HE2.out]; rfl, rfl⟩
    | some x =>
      obtain ⟨v, n⟩ := x
      have hf := vi_facts hv
      have HE2 : Hid (VE B pos 0 = some (pos + n)) := by unfold Hid; rw [HE.out, hv]; rfl
      simp only [varOut]
      clear hV
      go_wp2
      go_ret
      exact ⟨by rw [HE2.out]; rfl, rfl⟩
  · have HE : Hid (VE B pos 1 = if N < pos + 8 then none else some (pos + 8)) := by simp [Hid, VE, flat, hN]
    clear hG hB hV
    by_cases h8 : N < pos + 8
    · have HE2 : Hid (VE B pos 1 = none) := by unfold Hid; rw [HE.out, if_pos h8]
      go_enter Try.func13, Try.ntmps13
      go_wp2
      go_ret
      exact ⟨by rw [HE2.out]; rfl, rfl⟩
    · have HE2 : Hid (VE B pos 1 = some (pos + 8)) := by unfold Hid; rw [HE.out, if_neg h8]
      go_enter Try.func13, Try.ntmps13
      go_wp2
      go_ret
      exact ⟨by rw [HE2.out]; rfl, rfl⟩
  · have HE : Hid (VE B pos 2 = (vi B pos).bind fun x => if N < pos + x.2 + x.1 then none else some (pos + x.2 + x.1)) := by simp [Hid, VE, flat, hN]
    clear hG hB
    go_enter Try.func13, Try.ntmps13
    go_wp2_with fail
    refine hV.mono ?_
    rintro e w1 ⟨rfl, hw⟩
    subst w1
    cases hv : vi B pos with
    | none =>
      have HE2 : Hid (VE B pos 2 = none) := by unfold Hid; rw [HE.out, hv]; rfl
      simp only [varOut]
      clear hV
      go_wp2
      go_ret
      exact ⟨by rw [HE2.out]; rfl, rfl⟩
    | some x =>
      obtain ⟨v, n⟩ := x
      have hf := vi_facts hv
      have HE1 : Hid (VE B pos 2 = if N < pos + n + v then none else some (pos + n + v)) := by unfold Hid; rw [HE.out, hv]; rfl
      simp only [varOut]
      clear hV
      rw [hN] at hf
      by_cases hlt : N < pos + n + v
      · have HE2 : Hid (VE B pos 2 = none) := by unfold Hid; rw [HE1.out, if_pos hlt]
        go_wp2
        go_ret
        exact ⟨by rw [HE2.out]; rfl, rfl⟩
      · have HE2 : Hid (VE B pos 2 = some (pos + n + v)) := by unfold Hid; rw [HE1.out, if_neg hlt]
        go_wp2
        go_ret
        exact ⟨by rw [HE2.out]; rfl, rfl⟩
  · have HE : Hid (VE B pos 3 = GE B pos) := by simp [Hid, VE]
    have hG' := hG rfl
    clear hG hB hV
    go_enter Try.func13, Try.ntmps13
    go_wp2_with fail
    refine hG'.mono ?_
    rintro e w1 ⟨rfl, hw⟩
    subst w1
    clear hG'
    obtain ⟨r, hr⟩ : ∃ r, endV (GE B pos) = r := ⟨_, rfl⟩
    have HR : Hid _ := hr
    rw [hr]
    clear hr
    go_wp2
    go_ret
    exact ⟨by rw [HE.out, HR.out]; rfl, rfl⟩
  · have HE2 : Hid (VE B pos 4 = none) := by simp [Hid, VE, flat]
    clear hG hB hV
    go_enter Try.func13, Try.ntmps13
    go_wp2
    go_ret
    exact ⟨by rw [HE2.out]; rfl, rfl⟩
  · have HE : Hid (VE B pos 5 = if N < pos + 4 then none else some (pos + 4)) := by simp [Hid, VE, flat, hN]
    clear hG hB hV
    by_cases h8 : N < pos + 4
    · have HE2 : Hid (VE B pos 5 = none) := by unfold Hid; rw [HE.out, if_pos h8]
      go_enter Try.func13, Try.ntmps13
      go_wp2
      go_ret
      exact ⟨by rw [HE2.out]; rfl, rfl⟩
    · have HE2 : Hid (VE B pos 5 = some (pos + 4)) := by unfold Hid; rw [HE.out, if_neg h8]
      go_enter Try.func13, Try.ntmps13
      go_wp2
      go_ret
      exact ⟨by rw [HE2.out]; rfl, rfl⟩
  · have HE2 : Hid (VE B pos 6 = none) := by simp [Hid, VE, flat]
    clear hG hB hV
    go_enter Try.func13, Try.ntmps13
    go_wp2
    go_ret
    exact ⟨by rw [HE2.out]; rfl, rfl⟩
  · have HE2 : Hid (VE B pos 7 = none) := by simp [Hid, VE, flat]
    clear hG hB hV
    go_enter Try.func13, Try.ntmps13
    go_wp2
    go_ret
    exact ⟨by rw [HE2.out]; rfl, rfl⟩

set_option maxHeartbeats 1000000 in
set_option maxRecDepth 8000 in
theorem groupEnd_upto (w : World) (g cap N : Nat) (B : List Nat) (hB : Has w g B) (hN : B.length = N) (hl : N ≤ 1048576) :
    ∀ (m pos : Nat), pos ≤ N → N - pos ≤ m → Calls Try.prog 16 #[.slice (some ⟨g, 0, none⟩) N cap, .int .i64 (pos : Int)] w (EndPost w (GE B pos)) := by
  intro m
  induction m using Nat.strongRecOn with
  | _ m ih =>
    intro pos hp hm
    have IH : Hid (∀ m' : Nat, m' < m → ∀ (pos : Nat), pos ≤ N → N - pos ≤ m' → Calls Try.prog 16 #[.slice (some ⟨g, 0, none⟩) N cap, .int .i64 (pos : Int)] w (EndPost w (GE B pos))) := ih
    have HB : Hid (Has w g B) := hB
    clear ih hB
    go_enter Try.func16, Try.ntmps16
    go_wp2_with fail
    go_loopw [1] (fun i wr => ∃ q : Nat, pos ≤ q ∧ q ≤ N ∧ i = .int .i64 q ∧ wr = w ∧ Hid (GE B pos = GE B q)) (fun i _ => N - (intOf i).toNat)
    case atStart => exact ⟨pos, Nat.le_refl _, hp, rfl, rfl, rfl⟩
    case round =>
      obtain ⟨q, hq1, hq2, rfl, hw, HG⟩ := hrel
      subst wr
      have hV := varint w g q cap N B HB.out hN hl hq2
      go_wp2_with fail
      refine hV.mono ?_
      rintro e w1 ⟨rfl, hw⟩
      subst w1
      clear hV
      cases hv : vi B q with
      | none =>
        have HE : Hid (GE B pos = none) := by unfold Hid; rw [HG.out, GE_eq, hv]; rfl
        simp only [varOut]
        go_wp2
        go_ret
        exact ⟨by rw [HE.out]; rfl, rfl⟩
      | some x =>
        obtain ⟨v, n⟩ := x
        have hf := vi_facts hv
        rw [hN] at hf
        have HE : Hid (GE B pos = if v % 8 = 4 then some (q + n) else (VE B (q + n) (v % 8)).bind (GE B)) := by unfold Hid; rw [HG.out, GE_eq, hv]; rfl
        have hb := and7 v hf.2.2.2
        have hwt8 : v % 8 < 8 := by omega
        obtain ⟨wt, hwt⟩ : ∃ wt, v % 8 = wt := ⟨_, rfl⟩
        rw [hwt] at HE hb hwt8
        obtain ⟨hf1, hf2, hf3, hf4⟩ := hf
        simp only [varOut]
        clear hwt hv HG
        by_cases h4 : wt = 4
        · have HE2 : Hid (GE B pos = some (q + n)) := by unfold Hid; rw [HE.out, if_pos h4]
          subst h4
          go_wp2
          go_ret
          exact ⟨by rw [HE2.out]; rfl, rfl⟩
        · have HE2 : Hid (GE B pos = (VE B (q + n) wt).bind (GE B)) := by unfold Hid; rw [HE.out, if_neg h4]
          have hb4 : ((wt : Int) == 4) = false := by rw [beq_eq_false_iff_ne]; omega
          have hC := valueEnd w g (q + n) cap N B HB.out hN hl (by omega) wt hwt8 (fun _ => IH.out (N - (q + n)) (by omega) (q + n) (by omega) (Nat.le_refl _))
          go_wp2_with fail
          rw [show ((q + n : Nat) : Int) = (q : Int) + (n : Int) by omega] at hC
          refine hC.mono ?_
          rintro e w1 ⟨rfl, hw⟩
          subst w1
          clear hC
          cases hv : VE B (q + n) wt with
          | none =>
            have HE3 : Hid (GE B pos = none) := by unfold Hid; rw [HE2.out, hv]; rfl
            simp only [endV]
            go_wp2
            go_ret
            exact ⟨by rw [HE3.out]; rfl, rfl⟩
          | some q' =>
            have hf' := VE_facts hv
            rw [hN] at hf'
            have HE3 : Hid (GE B pos = GE B q') := by unfold Hid; rw [HE2.out, hv]; rfl
            obtain ⟨hf5, hf6⟩ := hf'
            simp only [endV]
            clear hv HE2 HE
            go_wp2
            go_roundw
            case rel => exact ⟨q', by omega, hf6, rfl, by trivial, HE3⟩
            case measure => simp [intOf]; omega

theorem groupEnd (w : World) (g pos cap N : Nat) (B : List Nat) (hB : Has w g B) (hN : B.length = N) (hl : N ≤ 1048576) (hp : pos ≤ N) :
    Calls Try.prog 16 #[.slice (some ⟨g, 0, none⟩) N cap, .int .i64 (pos : Int)] w (EndPost w (GE B pos)) :=
  groupEnd_upto w g cap N B hB hN hl (N - pos) pos hp (Nat.le_refl _)

theorem valueEnd_any (w : World) (g pos cap N : Nat) (B : List Nat) (hB : Has w g B) (hN : B.length = N) (hl : N ≤ 1048576) (hp : pos ≤ N) (wt : Nat) (hwt : wt < 8) :
    Calls Try.prog 13 #[.slice (some ⟨g, 0, none⟩) N cap, .int .i64 (pos : Int), .int .u64 (wt : Int)] w (EndPost w (VE B pos wt)) :=
  valueEnd w g pos cap N B hB hN hl hp wt hwt (fun _ => groupEnd w g pos cap N B hB hN hl hp)

end Go.Proofs.Qxb6625448a
