/-
  Seat b6627195aD: 'zzReadsBackAs' (10): the text reads back as its own list.
-/
import Derived.Test.Qxb6627195aDoorQuads
import Derived.Deep.DeepCutAuto
import Derived.Deep.CutRange
namespace Go.Proofs.Qxb6627195aDoor
open Go.RowKit
set_option linter.unusedSimpArgs false
set_option linter.unusedVariables false

theorem sidx {T : List UInt8} {p : Nat} {c : UInt8} (h : T[p]? = some c) (w : World) : (Instr.index 9 (.string (strOf T)) (.int .i64 (p : Int))).run Tryd.prog w = .ok (.int .u8 (c.toNat : Int)) w := by
  have hp : p < T.length := (List.getElem?_eq_some_iff.1 h).1
  have hs : (strOf T).size = T.length := by simp [strOf, ByteArray.size]
  rw [run_index_string w 9 _ .i64 _ Tryd.underlying9, dif_pos (by omega)]
  have e : (strOf T)[(p : Int).toNat]'(by simp; omega) = c := by
    have := (List.getElem?_eq_some_iff.1 h).2
    simp [strOf, ByteArray.getElem_eq_getElem_data, this]
  rw [e]

/-- What stands behind one number. -/
theorem spell_rest {Q : List Q4} {i : Nat} (hi : i < Q.length) : ∃ r, spell Q = spellTo Q (i + 1) ++ r ∧ Stops r := by
  by_cases h : i + 1 < Q.length
  · have h1 : Q.take (i + 1) ≠ [] := by intro e; have := congrArg List.length e; rw [List.length_take, List.length_nil] at this; omega
    have h2 : Q.drop (i + 1) ≠ [] := by intro e; have := congrArg List.length e; rw [List.length_drop, List.length_nil] at this; omega
    refine ⟨44 :: spell (Q.drop (i + 1)), ?_, stops_comma _⟩
    have := spell_append h1 h2
    rw [List.take_append_drop] at this
    exact this
  · refine ⟨[], ?_, stops_nil⟩
    unfold spellTo
    rw [List.take_of_length_le (by omega), List.append_nil]

theorem quad_rest {q : Q4} {k : Nat} (hk : k < 4) : ∃ r, (∀ s, Stops s → Stops (r ++ s)) ∧ quad q = quadTo q (k + 1) ++ r := by
  by_cases h : k = 3
  · subst h; exact ⟨[], fun s hs => hs, by simp [quad]⟩
  · have : k = 0 ∨ k = 1 ∨ k = 2 := by omega
    rcases this with rfl | rfl | rfl
    · exact ⟨46 :: (dec (q.at 1) ++ 46 :: (dec (q.at 2) ++ 46 :: dec (q.at 3))), fun s _ => stops_point _, by simp [quad, quadTo]⟩
    · exact ⟨46 :: (dec (q.at 2) ++ 46 :: dec (q.at 3)), fun s _ => stops_point _, by simp [quad, quadTo]⟩
    · exact ⟨46 :: dec (q.at 3), fun s _ => stops_point _, by simp [quad, quadTo]⟩

/-- The text at number k of address i. -/
theorem text_at {Q : List Q4} {i k : Nat} (hi : i < Q.length) (hk : k < 4) :
    ∃ r, Stops r ∧ spell Q = (spellTo Q i ++ ((if 0 < i then [44] else []) ++ quadTo (nth Q i) k)) ++ ((if 0 < k then [46] else []) ++ (dec ((nth Q i).at k) ++ r)) := by
  obtain ⟨r, e, hr⟩ := spell_rest hi
  obtain ⟨s, hs, e2⟩ := quad_rest (q := nth Q i) hk
  refine ⟨s ++ r, hs r hr, ?_⟩
  rw [e, spell_step (nth_some hi), e2, quadTo]
  simp

theorem num_lt : ∀ (m : Nat) (D : List UInt8), (∀ c ∈ D, 48 ≤ c.toNat ∧ c.toNat ≤ 57) → m ≤ D.length → num (D.take m) < 10 ^ m := by
  intro m
  induction m with
  | zero => intro D _ _; simp [num]
  | succ m ih =>
    intro D hD hm
    have h := ih D hD (by omega)
    have hl : m < D.length := by omega
    rw [List.take_add_one, List.getElem?_eq_getElem hl, Option.toList_some, num_snoc]
    have := hD D[m] (List.getElem_mem hl)
    rw [Nat.pow_succ]
    omega

/-- A digit of a number in its place in the text. -/
theorem digit_at {v : Nat} (hv : v < 256) {U r T : List UInt8} (hT : T = U ++ (dec v ++ r)) {m : Nat} (hm : m < (dec v).length) :
    ∃ c : UInt8, T[U.length + m]? = some c ∧ 48 ≤ c.toNat ∧ c.toNat ≤ 57 ∧ num ((dec v).take (m + 1)) = num ((dec v).take m) * 10 + (c.toNat - 48) ∧ num ((dec v).take m) < 1000 ∧ U.length + m < T.length := by
  have h3 := dec_length v
  refine ⟨(dec v)[m], ?_, (dec_digits hv _ (List.getElem_mem hm)).1, (dec_digits hv _ (List.getElem_mem hm)).2, ?_, ?_, ?_⟩
  · rw [hT, List.getElem?_append_right (by omega), show U.length + m - U.length = m by omega, List.getElem?_append_left hm, List.getElem?_eq_getElem hm]
  · rw [List.take_add_one, List.getElem?_eq_getElem hm, Option.toList_some, num_snoc]
  · have := num_lt m (dec v) (dec_digits hv) (by omega)
    have : 10 ^ m ≤ 10 ^ 2 := Nat.pow_le_pow_right (by omega) (by omega)
    omega
  · rw [hT]; simp; omega

theorem end_at {v : Nat} {U r T : List UInt8} (hr : Stops r) (hT : T = U ++ (dec v ++ r)) :
    U.length + (dec v).length = T.length ∨ (U.length + (dec v).length < T.length ∧ ∃ c : UInt8, T[U.length + (dec v).length]? = some c ∧ (c.toNat < 48 ∨ 57 < c.toNat)) := by
  cases r with
  | nil => left; rw [hT]; simp
  | cons c s =>
    right
    refine ⟨by rw [hT]; simp, c, ?_, ?_⟩
    · rw [hT, List.getElem?_append_right (by omega), show U.length + (dec v).length - U.length = (dec v).length by omega, List.getElem?_append_right (by omega), Nat.sub_self]; rfl
    · have := hr c s rfl
      simp only [isD, Bool.and_eq_false_iff, decide_eq_false_iff_not] at this
      omega

set_option maxHeartbeats 2000000 in
set_option maxRecDepth 20000 in
theorem zzReads (w : World) (p : Option Addr) (c N : Nat) (Q : List Q4) (hQ : Quads w p Q) (hN : Q.length = N) (hn : N ≤ 262144) :
    Calls Tryd.prog 10 #[.string (strOf (spell Q)), .slice p N c] w fun e w' => e = .returned (.bool true) ∧ w' = w := by
  obtain ⟨s, hs⟩ : ∃ s, strOf (spell Q) = s := ⟨_, rfl⟩
  have hsz : s.size = (spell Q).length := by rw [← hs]; simp [strOf, ByteArray.size]
  have hlen : (spell Q).length ≤ 16 * N := by
    have := spell_length Q N
    unfold spellTo at this
    rwa [← hN, List.take_length, hN] at this
  have hsn : s.size ≤ 16 * N := by omega
  have hix : ∀ (j : Nat) (c : UInt8), (spell Q)[j]? = some c → ∀ w, (Instr.index 9 (.string s) (.int .i64 (j : Int))).run Tryd.prog w = .ok (.int .u8 (c.toNat : Int)) w := by
    intro j c h w; rw [← hs]; exact sidx h w
  have HIX : Hid _ := hix
  have HSZ : Hid _ := hsz
  have HST : ∀ i, i < N → Hid (spellTo Q (i + 1) = spellTo Q i ++ ((if 0 < i then [44] else []) ++ quad (nth Q i))) := fun i hi => spell_step (nth_some (by omega))
  rw [hs]
  clear hix hsz hs hlen
  go_enter Tryd.func10, Tryd.ntmps10
  go_wp2
  go_loopw [5, 6] (fun v i wr => ∃ k : Nat, k ≤ N ∧ i = .int .i64 k ∧ v = .int .i64 (((spellTo Q k).length : Nat) : Int) ∧ wr = w) (fun _ i _ => N - (intOf i).toNat)
  case atStart => exact ⟨0, Nat.zero_le _, rfl, by simp [spellTo, spell, Lib.join_nil], rfl⟩
  case round =>
    obtain ⟨i, hi, rfl, rfl, hw⟩ := hrel
    subst wr
    by_cases hlt : i < N
    · have hi' : i < Q.length := by omega
      obtain ⟨gq, rfl, hgq, hcell⟩ := hQ.at hi'
      have hok := hQ.nth_ok hi'
      obtain ⟨P0, hP0⟩ : ∃ P0, (spellTo Q i).length = P0 := ⟨_, rfl⟩
      obtain ⟨T0, hT0⟩ : ∃ T0, spellTo Q i ++ (if 0 < i then [44] else []) = T0 := ⟨_, rfl⟩
      obtain ⟨L0, hL0⟩ : ∃ L0, T0.length = L0 := ⟨_, rfl⟩
      have hTp : 0 < i → L0 = P0 + 1 := by intro h; rw [← hL0, ← hT0, ← hP0]; simp [h]
      have hTn : ¬ 0 < i → L0 = P0 := by intro h; rw [← hL0, ← hT0, ← hP0]; simp [h]
      have HT : Hid (_ ∧ _ ∧ _ ∧ _) := ⟨hT0, hP0, hL0, text_at hi' (show 0 < 4 by omega)⟩
      have HC : Hid (∀ k, k < 4 → w.cell? ⟨gq, i * 4 + k, none⟩ = some (.int .u8 (((nth Q i).at k : Nat) : Int))) := hcell
      have HTP : Hid _ := hTp
      have HTN : Hid _ := hTn
      have HQ : Hid _ := hQ
      rw [hP0]
      clear hT0 hP0 hL0 hcell hTp hTn hQ
      go_upto_if 18 with fail
      go_cut [5] (fun v wx => v = .int .i64 (L0 : Int) ∧ wx = w)
      case first =>
        by_cases h0 : 0 < i
        · have hLP := HTP.out h0
          have hTT : Hid (P0 < s.size ∧ (spell Q)[P0]? = some 44) := by
            obtain ⟨e1, e2, e3, r, hr, e4⟩ := HT.out
            rw [if_pos h0] at e4
            unfold Hid
            rw [HSZ.out, e4, ← e2]
            refine ⟨by simp, ?_⟩
            simp
          have hP : P0 < s.size := hTT.out.1
          have hc := HIX.out P0 44 hTT.out.2
          go_wp2
          go_meet
          case rel => exact ⟨by rw [hLP]; go_num, rfl⟩
        · have hLP := HTN.out h0
          subst hLP
          go_wp2
          go_meet
          case rel => exact ⟨rfl, rfl⟩
      case rest =>
        obtain ⟨rfl, hw⟩ := hcut
        subst wc
        go_wp2
        go_loopw [5, 7] (fun v i' wr => ∃ k : Nat, k ≤ 4 ∧ i' = .int .i64 k ∧ v = .int .i64 (((T0 ++ quadTo (nth Q i) k).length : Nat) : Int) ∧ wr = w) (fun _ i _ => 4 - (intOf i).toNat)
        case atStart => exact ⟨0, Nat.zero_le _, rfl, by rw [← HT.out.2.2.1]; simp [quadTo], rfl⟩
        case round =>
          obtain ⟨k, hk, rfl, rfl, hw⟩ := hrel
          subst wr
          by_cases hk4 : k < 4
          · have HU : Hid (∃ r, Stops r ∧ spell Q = (T0 ++ quadTo (nth Q i) k) ++ ((if 0 < k then [46] else []) ++ (dec ((nth Q i).at k) ++ r))) := by
              obtain ⟨r, hr, e⟩ := text_at hi' hk4
              refine ⟨r, hr, ?_⟩
              rw [e, ← HT.out.1]; simp
            have hc := HC.out k hk4
            have hx := Q4.at_lt hok k
            have HS : Hid (quadTo (nth Q i) (k + 1) = quadTo (nth Q i) k ++ ((if 0 < k then [46] else []) ++ dec ((nth Q i).at k))) := rfl
            obtain ⟨x, hx'⟩ : ∃ x, (nth Q i).at k = x := ⟨_, rfl⟩
            obtain ⟨U, hU⟩ : ∃ U, T0 ++ quadTo (nth Q i) k = U := ⟨_, rfl⟩
            obtain ⟨u, hu⟩ : ∃ u, U.length = u := ⟨_, rfl⟩
            rw [hx'] at hc hx HU HS
            rw [hU] at HU ⊢
            rw [hu]
            have HH : Hid (_ ∧ _) := ⟨hU, hu⟩
            clear hx' hU hu
            obtain ⟨st, hst⟩ : ∃ st, (U ++ (if 0 < k then [46] else [])).length = st := ⟨_, rfl⟩
            have hsp : Hid (0 < k → st = u + 1) := by intro h; rw [← hst, ← HH.out.2]; simp [h]
            have hsn' : Hid (¬ 0 < k → st = u) := by intro h; rw [← hst, ← HH.out.2]; simp [h]
            have Hst : Hid _ := hst
            clear hst
            go_upto_if 36 with fail
            go_cut [5] (fun v wx => v = .int .i64 (st : Int) ∧ wx = w)
            case first =>
              by_cases h0 : 0 < k
              · have hLP := hsp.out h0
                have hTT : Hid (u < s.size ∧ (spell Q)[u]? = some 46) := by
                  obtain ⟨r, hr, e⟩ := HU.out
                  rw [if_pos h0] at e
                  unfold Hid
                  rw [HSZ.out, e, ← HH.out.2]
                  refine ⟨by simp, ?_⟩
                  simp
                have hP : u < s.size := hTT.out.1
                have hc := HIX.out u 46 hTT.out.2
                go_wp2
                go_meet
                case rel => exact ⟨by rw [hLP]; go_num, rfl⟩
              · have hLP := hsn'.out h0
                subst hLP
                go_wp2
                go_meet
                case rel => exact ⟨rfl, rfl⟩
            case rest =>
              obtain ⟨rfl, hw⟩ := hcut
              subst wc
              go_wp2
              have HD : Hid (∀ m, m < (dec x).length → ∃ c : UInt8, (spell Q)[st + m]? = some c ∧ 48 ≤ c.toNat ∧ c.toNat ≤ 57 ∧ num ((dec x).take (m + 1)) = num ((dec x).take m) * 10 + (c.toNat - 48) ∧ num ((dec x).take m) < 1000 ∧ st + m < s.size) := by
                intro m hm
                obtain ⟨r, hr, e⟩ := HU.out
                rw [HSZ.out, ← Hst.out]
                exact digit_at hx (r := r) (by rw [e]; simp) hm
              have HE : Hid (st + (dec x).length = s.size ∨ (st + (dec x).length < s.size ∧ ∃ c : UInt8, (spell Q)[st + (dec x).length]? = some c ∧ (c.toNat < 48 ∨ 57 < c.toNat))) := by
                obtain ⟨r, hr, e⟩ := HU.out
                unfold Hid
                rw [HSZ.out, ← Hst.out]
                exact end_at hr (by rw [e]; simp)
              have hd := dec_length x
              have HL : Hid (1 < (dec x).length → ∃ c : UInt8, (spell Q)[st]? = some c ∧ 48 < c.toNat) := by
                intro h1
                obtain ⟨c, r', e1, e2⟩ := dec_lead hx h1
                obtain ⟨r, hr, e⟩ := HU.out
                refine ⟨c, ?_, by have := dec_digits hx c (by rw [e1]; simp); omega⟩
                rw [e, ← List.append_assoc, List.getElem?_append_right (by rw [Hst.out]; omega), Hst.out, Nat.sub_self, e1]
                rfl
              have HN : Hid (num ((dec x).take (dec x).length) = x) := by unfold Hid; rw [List.take_length]; exact dec_num hx
              have HL4 : Hid ((T0 ++ quadTo (nth Q i) (k + 1)).length = st + (dec x).length) := by
                unfold Hid
                rw [HS.out, ← List.append_assoc, HH.out.1, ← List.append_assoc, List.length_append, Hst.out]
              obtain ⟨d, hd'⟩ : ∃ d, (dec x).length = d := ⟨_, rfl⟩
              rw [hd'] at HD HE hd HL HN HL4
              clear hd' HH Hst HS HU hsp hsn' HTP HTN
              obtain ⟨f, hf⟩ : ∃ f : Nat → Nat, (fun m => num ((dec x).take m)) = f := ⟨_, rfl⟩
              have hf' : ∀ m, num ((dec x).take m) = f m := fun m => congrFun hf m
              simp only [hf'] at HD HN
              have hf0 : f 0 = 0 := by rw [← hf' 0]; simp [num]
              clear hf hf'
              go_loopw [5, 9] (fun pv vv wr => ∃ m P : Nat, m ≤ d ∧ P = st + m ∧ pv = .int .i64 P ∧ vv = .int .i64 ((f m : Nat) : Int) ∧ wr = w) (fun pv _ _ => st + d - (intOf pv).toNat)
              case atStart => exact ⟨0, st, Nat.zero_le _, rfl, rfl, by rw [hf0]; rfl, rfl⟩
              case round =>
                obtain ⟨m, P, hm, hP, rfl, rfl, hw⟩ := hrel
                subst wr
                by_cases hmd : m < d
                · obtain ⟨ch, h1, h2, h3, h4, h5, h6⟩ := HD.out m hmd
                  rw [← hP] at h1 h6
                  have hix := HIX.out P ch h1
                  have H4 : Hid _ := h4
                  obtain ⟨cn, hcn⟩ : ∃ cn, ch.toNat = cn := ⟨_, rfl⟩
                  rw [hcn] at hix h2 h3 H4
                  obtain ⟨y, hy⟩ : ∃ y, f m = y := ⟨_, rfl⟩
                  rw [hy] at H4 h5 ⊢
                  have hPa : P ≤ st + m := by omega
                  have hPb : st + m ≤ P := by omega
                  clear h1 h4 hcn hy hP
                  go_wp2
                  go_roundw
                  case rel => exact ⟨m + 1, P + 1, by omega, by omega, by go_num, by rw [H4.out]; go_num, by trivial⟩
                  case measure => simp [intOf]; omega
                · obtain rfl : m = d := by omega
                  rw [HN.out]
                  have hPa : P ≤ st + m := by omega
                  have hPb : st + m ≤ P := by omega
                  have hb1 : (((P : Int) - (st : Int)) == 0) = false := by rw [beq_eq_false_iff_ne]; omega
                  have hb2 : decide ((3 : Int) < (P : Int) - (st : Int)) = false := decide_eq_false (by omega)
                  have hb3 : decide ((255 : Int) < (x : Int)) = false := decide_eq_false (by omega)
                  have hb5 : ((P : Int) - (st : Int)) ≤ 3 := by omega
                  have hb6 : (x : Int) ≤ 255 := by omega
                  have hb7 : ¬ ((P : Int) - (st : Int)) = 0 := by omega
                  by_cases hd1 : 1 < m
                  · obtain ⟨c1, hc1, hc2⟩ := HL.out hd1
                    have hixs := HIX.out st c1 hc1
                    obtain ⟨cm, hcm⟩ : ∃ cm, c1.toNat = cm := ⟨_, rfl⟩
                    rw [hcm] at hixs hc2
                    clear hc1 hcm
                    have hb4 : ((cm : Int) == 48) = false := by rw [beq_eq_false_iff_ne]; omega
                    rcases HE.out with hE | ⟨hE, ce, hE1, hE2⟩
                    · have hEa : s.size ≤ P := by omega
                      clear hE hP
                      go_wp2
                      go_roundw
                      case rel => exact ⟨k + 1, by omega, by go_num, by rw [HL4.out]; exact congrArg (fun n : Nat => Value.int .i64 (n : Int)) (by omega), by trivial⟩
                      case measure => simp [intOf]; omega
                    · have hixe := HIX.out P ce (by rw [hP]; exact hE1)
                      have hEa : P < s.size := by omega
                      obtain ⟨cn, hcn⟩ : ∃ cn, ce.toNat = cn := ⟨_, rfl⟩
                      rw [hcn] at hixe hE2
                      clear hE hE1 hP hcn
                      rcases hE2 with hE2 | hE2
                      · go_wp2
                        go_roundw
                        case rel => exact ⟨k + 1, by omega, by go_num, by rw [HL4.out]; exact congrArg (fun n : Nat => Value.int .i64 (n : Int)) (by omega), by trivial⟩
                        case measure => simp [intOf]; omega
  
                      · have hE3 : 48 ≤ cn := by omega
                        go_wp2
                        go_roundw
                        case rel => exact ⟨k + 1, by omega, by go_num, by rw [HL4.out]; exact congrArg (fun n : Nat => Value.int .i64 (n : Int)) (by omega), by trivial⟩
                        case measure => simp [intOf]; omega
  
                  · skip
                    rcases HE.out with hE | ⟨hE, ce, hE1, hE2⟩
                    · have hEa : s.size ≤ P := by omega
                      clear hE hP
                      go_wp2
                      go_roundw
                      case rel => exact ⟨k + 1, by omega, by go_num, by rw [HL4.out]; exact congrArg (fun n : Nat => Value.int .i64 (n : Int)) (by omega), by trivial⟩
                      case measure => simp [intOf]; omega
                    · have hixe := HIX.out P ce (by rw [hP]; exact hE1)
                      have hEa : P < s.size := by omega
                      obtain ⟨cn, hcn⟩ : ∃ cn, ce.toNat = cn := ⟨_, rfl⟩
                      rw [hcn] at hixe hE2
                      clear hE hE1 hP hcn
                      rcases hE2 with hE2 | hE2
                      · go_wp2
                        go_roundw
                        case rel => exact ⟨k + 1, by omega, by go_num, by rw [HL4.out]; exact congrArg (fun n : Nat => Value.int .i64 (n : Int)) (by omega), by trivial⟩
                        case measure => simp [intOf]; omega
  
                      · have hE3 : 48 ≤ cn := by omega
                        go_wp2
                        go_roundw
                        case rel => exact ⟨k + 1, by omega, by go_num, by rw [HL4.out]; exact congrArg (fun n : Nat => Value.int .i64 (n : Int)) (by omega), by trivial⟩
                        case measure => simp [intOf]; omega
  
          · obtain rfl : k = 4 := by omega
            have hfin : Hid ((T0 ++ quadTo (nth Q i) 4).length = (spellTo Q (i + 1)).length) := by
              unfold Hid; rw [(HST i hlt).out, ← HT.out.1]; simp [quad]
            go_wp2
            go_roundw
            case rel => exact ⟨i + 1, by omega, by go_num, by rw [← hfin.out], by trivial⟩
            case measure => simp [intOf]; omega
    · obtain rfl : i = N := by omega
      have hfin : Hid ((spellTo Q i).length = s.size) := by
        unfold Hid; rw [HSZ.out]; unfold spellTo; rw [← hN, List.take_length]
      rw [hfin.out]
      go_wp2
      go_ret
      exact ⟨rfl, rfl⟩

end Go.Proofs.Qxb6627195aDoor
