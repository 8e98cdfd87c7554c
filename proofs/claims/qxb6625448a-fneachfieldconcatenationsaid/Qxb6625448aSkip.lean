/-
  Seat b6625448a: 'otlpproto.skipValue' (15).
-/
import Derived.Test.Qxb6625448aEnd
import Derived.Deep.DeepCutAuto
import Derived.Deep.CutRange
import Derived.Deep.CutBlock
namespace Go.Proofs.Qxb6625448a
open Go.RowKit
set_option linter.unusedSimpArgs false
set_option linter.unusedVariables false

set_option maxHeartbeats 400000 in
theorem uvarint_empty (w : World) (p : Option Addr) (cap : Nat) : Calls Try.prog 14 #[.slice p 0 cap] w (UvPost w none) := by
  go_enter Try.func14, Try.ntmps14
  go_wp2
  refine wp_loop_rounds 1 ?_
  rw [rounds_succ]
  go_wp2
  refine bodyPost_ret (v := .tuple #[.int .u64 0, .int .i64 0]) (by simp [results, Try.results14, go_sem]) rfl ⟨_, rfl, ⟨0, by omega, by omega, rfl⟩, rfl⟩

theorem flat_two {B : List Nat} {pos n x : Nat} (hvi : vi B pos = some (x, n)) (h : ¬ B.length < pos + n + x) : flat B pos 2 = some (pos + n + x) := by
  simp [flat, hvi]
  omega

def skipV (p0 : Nat) (o : Option Nat) : Value :=
  match o with
  | some p => .int .i64 ((p - p0 : Nat) : Int)
  | none => .int .i64 (-1)

def SkipPost (w : World) (p0 : Nat) (o : Option Nat) (e : Ending) (w' : World) : Prop := e = .returned (skipV p0 o) ∧ w' = w

set_option maxHeartbeats 2000000 in
set_option maxRecDepth 8000 in
theorem skip (w : World) (g p0 M : Nat) (B : List Nat) (hB : Has w g B) (hN : B.length = p0 + M) (hl : p0 + M ≤ 1048576) (hM : 0 < M) (wt0 : Nat) (hwt : wt0 < 8) :
    Calls Try.prog 15 #[.slice (some ⟨g, p0, none⟩) M M, .int .u64 (wt0 : Int)] w (SkipPost w p0 (VE B p0 wt0)) := by
  have HB : Hid (Has w g B) := hB
  clear hB
  go_enter Try.func15, Try.ntmps15
  go_wp2_with fail
  go_loopw [1, 5, 6] (fun v1 v5 v6 wr => ∃ q gr wt : Nat, q ≤ M ∧ gr ≤ q ∧ wt < 8 ∧ v1 = .int .u64 wt ∧ v5 = .int .i64 q ∧ v6 = .int .i64 gr ∧ wr = w ∧ Hid (VE B p0 wt0 = ans B (p0 + q) gr wt)) (fun _ v5 _ _ => M - (intOf v5).toNat)
  case atStart => exact ⟨0, 0, wt0, by omega, by omega, hwt, rfl, rfl, rfl, rfl, by unfold Hid; rw [Nat.add_zero, ans_zero']⟩
  case round =>
    obtain ⟨q, gr, wt, hq, hgr, hwt', rfl, rfl, rfl, hw, HA⟩ := hrel
    subst wr
    go_upto_block 2 with fail
    go_cut [5, 6] (fun v5 v6 wx => ∃ q1 g1 : Nat, v5 = .int .i64 (q1 : Int) ∧ v6 = .int .i64 (g1 : Int) ∧ wx = w ∧ q ≤ q1 ∧ q1 ≤ M + 8 ∧ g1 ≤ q + 1 ∧ Hid (VE B p0 wt0 = if M < q1 then none else shutAll B g1 (p0 + q1)))
    case first =>
      have hcases : wt = 0 ∨ wt = 1 ∨ wt = 2 ∨ wt = 3 ∨ wt = 4 ∨ wt = 5 ∨ wt = 6 ∨ wt = 7 := by omega
      rcases hcases with rfl | rfl | rfl | rfl | rfl | rfl | rfl | rfl
      · have HA2 : Hid (VE B p0 wt0 = (flat B (p0 + q) 0).bind (shutAll B gr)) := by unfold Hid; rw [HA.out]; simp [ans, VE]
        by_cases hqM : q < M
        · have hU := uvarint w g (p0 + q) (M - q) (M - q) B HB.out (by omega) (by omega)
          go_wp2_with fail
          refine hU.mono ?_
          rintro e w1 ⟨v, rfl, hv, hw⟩
          subst w1
          clear hU
          cases hvi : vi B (p0 + q) with
          | none =>
            rw [hvi] at hv
            obtain ⟨m, hm1, hm2, rfl⟩ := hv
            have HE : Hid (VE B p0 wt0 = none) := by unfold Hid; rw [HA2.out]; simp [flat, hvi]
            clear hvi
            go_wp2
            go_ret
            exact ⟨by rw [HE.out]; rfl, rfl⟩
          | some y =>
            obtain ⟨x, n⟩ := y
            rw [hvi] at hv
            have hv' : v = .tuple #[.int .u64 (x : Int), .int .i64 (n : Int)] := hv
            subst hv'
            obtain ⟨f1, f2, f3, f4⟩ := vi_facts hvi
            rw [hN] at f3
            have HE : Hid (VE B p0 wt0 = if M < q + n then none else shutAll B gr (p0 + (q + n))) := by
              unfold Hid; rw [HA2.out, if_neg (by omega)]; simp [flat, hvi, Nat.add_assoc]
            clear hvi hv
            go_wp2
            go_meet
            case rel => exact ⟨q + n, gr, by go_num, rfl, rfl, by omega, by omega, by omega, HE⟩
        · have HE : Hid (VE B p0 wt0 = none) := by unfold Hid; rw [HA2.out]; simp [flat, vi_none (B := B) (pos := p0 + q) (by omega)]
          obtain rfl : q = M := by omega
          go_wp2_with fail
          refine (uvarint_empty w _ _).mono ?_
          rintro e w1 ⟨v, rfl, hv, hw⟩
          subst w1
          obtain ⟨m, hm1, hm2, rfl⟩ := hv
          go_wp2
          go_ret
          exact ⟨by rw [HE.out]; rfl, rfl⟩
      · have HE : Hid (VE B p0 wt0 = if M < q + 8 then none else shutAll B gr (p0 + (q + 8))) := by
          unfold Hid
          rw [HA.out]
          by_cases h : M < q + 8
          · have h' : p0 + M < p0 + q + 8 := by omega
            simp [ans, VE, flat, hN, h, h']
          · have h' : ¬ p0 + M < p0 + q + 8 := by omega
            simp [ans, VE, flat, hN, h, h', Nat.add_assoc]
        go_wp2
        go_meet
        case rel => exact ⟨q + 8, gr, by go_num, rfl, rfl, by omega, by omega, by omega, HE⟩
      · have HA2 : Hid (VE B p0 wt0 = (flat B (p0 + q) 2).bind (shutAll B gr)) := by unfold Hid; rw [HA.out]; simp [ans, VE]
        by_cases hqM : q < M
        · have hU := uvarint w g (p0 + q) (M - q) (M - q) B HB.out (by omega) (by omega)
          go_wp2_with fail
          refine hU.mono ?_
          rintro e w1 ⟨v, rfl, hv, hw⟩
          subst w1
          clear hU
          cases hvi : vi B (p0 + q) with
          | none =>
            rw [hvi] at hv
            obtain ⟨m, hm1, hm2, rfl⟩ := hv
            have HE : Hid (VE B p0 wt0 = none) := by unfold Hid; rw [HA2.out]; simp [flat, hvi]
            clear hvi
            go_wp2
            go_ret
            exact ⟨by rw [HE.out]; rfl, rfl⟩
          | some y =>
            obtain ⟨x, n⟩ := y
            rw [hvi] at hv
            have hv' : v = .tuple #[.int .u64 (x : Int), .int .i64 (n : Int)] := hv
            subst hv'
            obtain ⟨f1, f2, f3, f4⟩ := vi_facts hvi
            rw [hN] at f3
            by_cases hlt : p0 + M < p0 + q + n + x
            · have HE : Hid (VE B p0 wt0 = none) := by unfold Hid; rw [HA2.out]; simp [flat, hvi, hN, hlt]
              clear hvi hv
              have hlt' : M < q + n + x := by omega
              clear hlt
              go_wp2
              go_ret
              exact ⟨by rw [HE.out]; rfl, rfl⟩
            · have HE : Hid (VE B p0 wt0 = if M < q + (n + x) then none else shutAll B gr (p0 + (q + (n + x)))) := by
                unfold Hid; rw [HA2.out, if_neg (by omega), flat_two hvi (by rw [hN]; exact hlt), Option.bind_some, show p0 + q + n + x = p0 + (q + (n + x)) by omega]
              clear hvi hv
              have hlt' : q + n + x ≤ M := by omega
              clear hlt
              go_wp2
              go_meet
              case rel => exact ⟨q + (n + x), gr, by go_num, rfl, rfl, by omega, by omega, by omega, HE⟩
        · have HE : Hid (VE B p0 wt0 = none) := by unfold Hid; rw [HA2.out]; simp [flat, vi_none (B := B) (pos := p0 + q) (by omega)]
          obtain rfl : q = M := by omega
          go_wp2_with fail
          refine (uvarint_empty w _ _).mono ?_
          rintro e w1 ⟨v, rfl, hv, hw⟩
          subst w1
          obtain ⟨m, hm1, hm2, rfl⟩ := hv
          go_wp2
          go_ret
          exact ⟨by rw [HE.out]; rfl, rfl⟩
      · have HE : Hid (VE B p0 wt0 = if M < q then none else shutAll B (gr + 1) (p0 + q)) := by
          unfold Hid; rw [HA.out, ans_three, if_neg (by omega)]
        go_wp2
        go_meet
        case rel => exact ⟨q, gr + 1, rfl, by go_num, rfl, by omega, by omega, by omega, HE⟩
      · by_cases hg0 : gr = 0
        · have HE : Hid (VE B p0 wt0 = none) := by unfold Hid; rw [HA.out, hg0]; rfl
          subst hg0
          go_wp2
          go_ret
          exact ⟨by rw [HE.out]; rfl, rfl⟩
        · obtain ⟨gs, hgs⟩ : ∃ gs, gr = gs + 1 := ⟨gr - 1, by omega⟩
          have HE : Hid (VE B p0 wt0 = if M < q then none else shutAll B gs (p0 + q)) := by
            unfold Hid; rw [HA.out, hgs, if_neg (by omega)]; rfl
          have hg0' : ((gr : Int) == 0) = false := by rw [beq_eq_false_iff_ne]; omega
          have hgr' : gs ≤ gr := by omega
          have HGS : Hid _ := hgs
          clear hgs
          go_wp2
          go_meet
          case rel => exact ⟨q, gs, rfl, by rw [HGS.out]; go_num, rfl, by omega, by omega, by omega, HE⟩
      · have HE : Hid (VE B p0 wt0 = if M < q + 4 then none else shutAll B gr (p0 + (q + 4))) := by
          unfold Hid
          rw [HA.out]
          by_cases h : M < q + 4
          · have h' : p0 + M < p0 + q + 4 := by omega
            simp [ans, VE, flat, hN, h, h']
          · have h' : ¬ p0 + M < p0 + q + 4 := by omega
            simp [ans, VE, flat, hN, h, h', Nat.add_assoc]
        go_wp2
        go_meet
        case rel => exact ⟨q + 4, gr, by go_num, rfl, rfl, by omega, by omega, by omega, HE⟩
      · have HE : Hid (VE B p0 wt0 = none) := by unfold Hid; rw [HA.out]; simp [ans, VE, flat]
        go_wp2
        go_ret
        exact ⟨by rw [HE.out]; rfl, rfl⟩
      · have HE : Hid (VE B p0 wt0 = none) := by unfold Hid; rw [HA.out]; simp [ans, VE, flat]
        go_wp2
        go_ret
        exact ⟨by rw [HE.out]; rfl, rfl⟩
    case rest =>
      obtain ⟨q1, g1, rfl, rfl, hw, h1, h2, h3, HE⟩ := hcut
      subst wc
      clear HA
      by_cases hgt : M < q1
      · have HE2 : Hid (VE B p0 wt0 = none) := by unfold Hid; rw [HE.out, if_pos hgt]
        go_wp2
        go_ret
        exact ⟨by rw [HE2.out]; rfl, rfl⟩
      have HE2 : Hid (VE B p0 wt0 = shutAll B g1 (p0 + q1)) := by unfold Hid; rw [HE.out, if_neg hgt]
      clear HE
      by_cases hg0 : g1 = 0
      · have HE3 : Hid (VE B p0 wt0 = some (p0 + q1)) := by unfold Hid; rw [HE2.out, hg0]; rfl
        subst hg0
        go_wp2
        go_ret
        exact ⟨by rw [HE3.out]; simp [skipV], rfl⟩
      have hg0' : ((g1 : Int) == 0) = false := by rw [beq_eq_false_iff_ne]; omega
      obtain ⟨gs, hgs⟩ : ∃ gs, g1 = gs + 1 := ⟨g1 - 1, by omega⟩
      have HE3 : Hid (VE B p0 wt0 = (vi B (p0 + q1)).bind fun x => ans B (p0 + q1 + x.2) g1 (x.1 % 8)) := by
        unfold Hid; rw [HE2.out, hgs, shutAll_step]
      clear hgs HE2
      by_cases hqM : q1 < M
      · have hU := uvarint w g (p0 + q1) (M - q1) (M - q1) B HB.out (by omega) (by omega)
        go_wp2_with fail
        refine hU.mono ?_
        rintro e w1 ⟨v, rfl, hv, hw⟩
        subst w1
        clear hU
        cases hvi : vi B (p0 + q1) with
        | none =>
          rw [hvi] at hv
          obtain ⟨m, hm1, hm2, rfl⟩ := hv
          have HE : Hid (VE B p0 wt0 = none) := by unfold Hid; rw [HE3.out, hvi]; rfl
          clear hvi
          go_wp2
          go_ret
          exact ⟨by rw [HE.out]; rfl, rfl⟩
        | some y =>
          obtain ⟨x, n⟩ := y
          rw [hvi] at hv
          have hv' : v = .tuple #[.int .u64 (x : Int), .int .i64 (n : Int)] := hv
          subst hv'
          obtain ⟨f1, f2, f3, f4⟩ := vi_facts hvi
          rw [hN] at f3
          have HE : Hid (VE B p0 wt0 = ans B (p0 + (q1 + n)) g1 (x % 8)) := by
            unfold Hid; rw [HE3.out, hvi, Option.bind_some, Nat.add_assoc]
          have hb := and7 x f4
          have hx8 : x % 8 < 8 := by omega
          obtain ⟨wx, hwx⟩ : ∃ wx, x % 8 = wx := ⟨_, rfl⟩
          rw [hwx] at HE hb hx8
          clear hvi hv hwx
          go_wp2
          go_roundw
          case rel => exact ⟨q1 + n, g1, wx, by omega, by omega, hx8, rfl, by go_num, rfl, by trivial, HE⟩
          case measure => simp [intOf]; omega
      · have HE : Hid (VE B p0 wt0 = none) := by unfold Hid; rw [HE3.out, vi_none (by omega)]; rfl
        obtain rfl : q1 = M := by omega
        go_wp2_with fail
        refine (uvarint_empty w _ _).mono ?_
        rintro e w1 ⟨v, rfl, hv, hw⟩
        subst w1
        obtain ⟨m, hm1, hm2, rfl⟩ := hv
        go_wp2
        go_ret
        exact ⟨by rw [HE.out]; rfl, rfl⟩

end Go.Proofs.Qxb6625448a
