/-
  Seat b6625448a: bytes; 'zzOtlpB1Varint' (12), 'encoding/binary.Uvarint' (14).
-/
import Derived.Test.Qxb6625448aRows
import Derived.Test.Qxb6625448aPlain
import Derived.WalkKit
import Derived.WalkSpells
import Derived.WalkLawsBesides
import Derived.OwnWalk
import Derived.Below
import Derived.Deep.OwnRows
namespace Go.Proofs.Qxb6625448a
open Go.RowKit
set_option linter.unusedSimpArgs false
set_option linter.unusedVariables false

/-- Block g holds the bytes B. -/
def Has (w : World) (g : Nat) (B : List Nat) : Prop := ∀ (i c : Nat), B[i]? = some c → w.cell? ⟨g, i, none⟩ = some (.int .u8 (c : Int)) ∧ c < 256

theorem mix_fin (y c s : Nat) (hy : y < 18446744073709551616) : bits BinOp.or IntKind.u64 (y : Int) (IntKind.u64.wrap ((c : Int) * 2 ^ s)) = ((mixA y c s : Nat) : Int) := by
  have e : IntKind.u64.wrap ((c : Int) * 2 ^ s) = ((c * 2 ^ s % 18446744073709551616 : Nat) : Int) := by
    have e1 : (c : Int) * 2 ^ s = ((c * 2 ^ s : Nat) : Int) := by rw [Int.natCast_mul, Int.natCast_pow]; rfl
    rw [IntKind.wrap_u64, e1]
    generalize c * 2 ^ s = m
    omega
  rw [e, u64_or_nat _ _ hy (Nat.mod_lt _ (by omega))]
  rfl

theorem mix_mid (y c s : Nat) (hy : y < 18446744073709551616) (hc : c < 256) : bits BinOp.or IntKind.u64 (y : Int) (IntKind.u64.wrap (IntKind.u64.wrap (bits BinOp.and IntKind.u8 (c : Int) 127) * 2 ^ s)) = ((mixA y (c &&& 127) s : Nat) : Int) := by
  have e : IntKind.u64.wrap (bits BinOp.and IntKind.u8 (c : Int) 127) = ((c &&& 127 : Nat) : Int) := by
    have h1 : bits BinOp.and IntKind.u8 (c : Int) ((127 : Nat) : Int) = ((c &&& 127 : Nat) : Int) := u8_and_nat c 127 hc (by omega)
    have h2 : c &&& 127 ≤ 127 := Nat.and_le_right
    have h3 : bits BinOp.and IntKind.u8 (c : Int) 127 = ((c &&& 127 : Nat) : Int) := h1
    rw [h3, IntKind.wrap_u64]; omega
  rw [e]
  exact mix_fin y _ s hy

def varOut (o : Option (Nat × Nat)) : Value :=
  match o with
  | some (v, n) => .tuple #[.int .u64 (v : Int), .int .i64 (n : Int), .bool true]
  | none => .tuple #[.int .u64 0, .int .i64 0, .bool false]

set_option maxHeartbeats 1000000 in
set_option maxRecDepth 8000 in
theorem varint (w : World) (g pos cap N : Nat) (B : List Nat) (hB : Has w g B) (hN : B.length = N) (hl : N ≤ 1048576) (hp : pos ≤ N) :
    Calls Try.prog 12 #[.slice (some ⟨g, 0, none⟩) N cap, .int .i64 (pos : Int)] w fun e w' => e = .returned (varOut (vi B pos)) ∧ w' = w := by
  go_enter Try.func12, Try.ntmps12
  go_wp2
  go_loopw [7, 8, 9] (fun x s i wr => ∃ (k y z : Nat), k ≤ 10 ∧ i = .int .i64 k ∧ z = 7 * k ∧ s = .int .u64 (z : Int) ∧ x = .int .u64 (y : Int) ∧ wr = w ∧ y < 18446744073709551616 ∧ Hid (vi B pos = vgo B pos (10 - k) k y)) (fun _ _ i _ => 10 - (intOf i).toNat)
  case atStart => exact ⟨0, 0, 0, Nat.zero_le _, rfl, rfl, rfl, rfl, rfl, by omega, rfl⟩
  case round =>
    obtain ⟨k, y, s, hk, rfl, hs, rfl, rfl, hw, hy, HV⟩ := hrel
    subst wr
    by_cases hk10 : k < 10
    · have hs1 : s ≤ 63 := by omega
      have HS : Hid (s = 7 * k) := hs
      obtain ⟨f, hf⟩ : ∃ f, 10 - k = f + 1 := ⟨9 - k, by omega⟩
      have Hf : Hid (10 - (k + 1) = f) := by unfold Hid; omega
      rw [hf] at HV
      clear hs hf
      by_cases hin : pos + k < N
      · obtain ⟨c, hc⟩ : ∃ c, B[pos + k]? = some c := ⟨_, List.getElem?_eq_getElem (by omega)⟩
        obtain ⟨h1, h2⟩ := hB _ _ hc
        have HV2 : Hid (vi B pos = if c < 128 then (if k = 9 ∧ 1 < c then none else some (mixA y c s, k + 1)) else vgo B pos f (k + 1) (mixA y (c &&& 127) s)) := by
          unfold Hid; rw [HV.out, vgo, hc, HS.out]
        clear HV hB hc
        by_cases h128 : c < 128
        · have hd : decide ((c : Int) < 128) = true := decide_eq_true (by omega)
          by_cases h9 : k = 9 ∧ 1 < c
          · have HV3 : Hid (vi B pos = none) := by unfold Hid; rw [HV2.out, if_pos h128, if_pos h9]
            obtain ⟨rfl, hc1'⟩ := h9
            have hc1 : decide ((1 : Int) < (c : Int)) = true := decide_eq_true (by omega)
            go_wp2
            refine bodyPost_ret (v := varOut none) (by simp [results, Try.results12, go_sem, varOut]) rfl ⟨by rw [HV3.out], rfl⟩
          · have HV3 : Hid (vi B pos = some (mixA y c s, k + 1)) := by unfold Hid; rw [HV2.out, if_pos h128, if_neg h9]
            have HM : Hid _ := mix_fin y c s hy
            by_cases hk9 : k = 9
            · have hc1 : ¬ 1 < c := fun h => h9 ⟨hk9, h⟩
              clear h9
              subst hk9
              have hc1' : decide ((1 : Int) < (c : Int)) = false := decide_eq_false (by omega)
              go_wp2
              refine bodyPost_ret (v := varOut (some (mixA y c s, 9 + 1))) (by simp [results, Try.results12, go_sem, varOut, HM.out]) rfl ⟨by rw [HV3.out], rfl⟩
            · have hk9' : ((k : Int) == 9) = false := by rw [beq_eq_false_iff_ne]; omega
              go_wp2
              refine bodyPost_ret (v := varOut (some (mixA y c s, k + 1))) (by simp [results, Try.results12, go_sem, varOut, HM.out]) rfl ⟨by rw [HV3.out], rfl⟩
        · have hd : decide ((c : Int) < 128) = false := decide_eq_false (by omega)
          have HM : Hid _ := mix_mid y c s hy h2
          have HV3 : Hid (vi B pos = vgo B pos f (k + 1) (mixA y (c &&& 127) s)) := by unfold Hid; rw [HV2.out, if_neg h128]
          go_wp2
          go_roundw
          case rel => exact ⟨k + 1, mixA y (c &&& 127) s, s + 7, by omega, by go_num, by rw [HS.out]; omega, by go_num, by rw [HM.out], by trivial, mixA_lt _ _ hy, by rw [Hf.out]; exact HV3.out⟩
          case measure => simp [intOf]; omega
      · have HV3 : Hid (vi B pos = none) := by
          unfold Hid; rw [HV.out, vgo, List.getElem?_eq_none (by omega)]
        clear HV
        go_wp2
        refine bodyPost_ret (v := varOut none) (by simp [results, Try.results12, go_sem, varOut]) rfl ⟨by rw [HV3.out], rfl⟩
    · obtain rfl : k = 10 := by omega
      have HV3 : Hid (vi B pos = none) := HV.out
      clear HV hs
      go_wp2
      refine bodyPost_ret (v := varOut none) (by simp [results, Try.results12, go_sem, varOut]) rfl ⟨by rw [HV3.out], rfl⟩

/-- 'binary.Uvarint': the number and its size; where none stands there the size is not above 0. -/
def UvOut (o : Option (Nat × Nat)) (v : Value) : Prop :=
  match o with
  | some (x, n) => v = .tuple #[.int .u64 (x : Int), .int .i64 (n : Int)]
  | none => ∃ m : Int, m ≤ 0 ∧ -11 ≤ m ∧ v = .tuple #[.int .u64 0, .int .i64 m]

def UvPost (w : World) (o : Option (Nat × Nat)) (e : Ending) (w' : World) : Prop := ∃ v, e = .returned v ∧ UvOut o v ∧ w' = w

set_option maxHeartbeats 1000000 in
set_option maxRecDepth 8000 in
theorem uvarint (w : World) (g pos cap N : Nat) (B : List Nat) (hB : Has w g B) (hN : B.length = pos + N) (hl : N ≤ 1048576) :
    Calls Try.prog 14 #[.slice (some ⟨g, pos, none⟩) N cap] w (UvPost w (vi B pos)) := by
  go_enter Try.func14, Try.ntmps14
  go_wp2
  go_loopw [4, 5, 10] (fun x s i wr => ∃ (k y z : Nat), k ≤ 10 ∧ k ≤ N ∧ i = .int .i64 k ∧ z = 7 * k ∧ s = .int .u64 (z : Int) ∧ x = .int .u64 (y : Int) ∧ wr = w ∧ y < 18446744073709551616 ∧ Hid (vi B pos = vgo B pos (10 - k) k y)) (fun _ _ i _ => 11 - (intOf i).toNat)
  case atStart => exact ⟨0, 0, 0, Nat.zero_le _, Nat.zero_le _, rfl, rfl, rfl, rfl, rfl, by omega, rfl⟩
  case round =>
    obtain ⟨k, y, s, hk, hkN, rfl, hs, rfl, rfl, hw, hy, HV⟩ := hrel
    subst wr
    by_cases hin : k < N
    · obtain ⟨c, hc⟩ : ∃ c, B[pos + k]? = some c := ⟨_, List.getElem?_eq_getElem (by omega)⟩
      obtain ⟨h1, h2⟩ := hB _ _ hc
      by_cases hk10 : k < 10
      · have hk10' : ((k : Int) == 10) = false := by rw [beq_eq_false_iff_ne]; omega
        have hs1 : s ≤ 63 := by omega
        have HS : Hid (s = 7 * k) := hs
        obtain ⟨f, hf⟩ : ∃ f, 10 - k = f + 1 := ⟨9 - k, by omega⟩
        have Hf : Hid (10 - (k + 1) = f) := by unfold Hid; omega
        rw [hf] at HV
        clear hs hf
        have HV2 : Hid (vi B pos = if c < 128 then (if k = 9 ∧ 1 < c then none else some (mixA y c s, k + 1)) else vgo B pos f (k + 1) (mixA y (c &&& 127) s)) := by
          unfold Hid; rw [HV.out, vgo, hc, HS.out]
        clear HV hB hc
        by_cases h128 : c < 128
        · have hd : decide ((c : Int) < 128) = true := decide_eq_true (by omega)
          by_cases h9 : k = 9 ∧ 1 < c
          · have HV3 : Hid (vi B pos = none) := by unfold Hid; rw [HV2.out, if_pos h128, if_pos h9]
            obtain ⟨rfl, hc1'⟩ := h9
            have hc1 : decide ((1 : Int) < (c : Int)) = true := decide_eq_true (by omega)
            go_wp2
            refine bodyPost_ret (v := .tuple #[.int .u64 0, .int .i64 (-10)]) (by simp [results, Try.results14, go_sem]) rfl ⟨_, rfl, by rw [HV3.out]; exact ⟨_, by omega, by omega, rfl⟩, rfl⟩
          · have HV3 : Hid (vi B pos = some (mixA y c s, k + 1)) := by unfold Hid; rw [HV2.out, if_pos h128, if_neg h9]
            have HM : Hid _ := mix_fin y c s hy
            by_cases hk9 : k = 9
            · have hc1 : ¬ 1 < c := fun h => h9 ⟨hk9, h⟩
              clear h9
              subst hk9
              have hc1' : decide ((1 : Int) < (c : Int)) = false := decide_eq_false (by omega)
              go_wp2
              refine bodyPost_ret (v := .tuple #[.int .u64 ((mixA y c s : Nat) : Int), .int .i64 ((9 + 1 : Nat) : Int)]) (by simp [results, Try.results14, go_sem, HM.out]) rfl ⟨_, rfl, by rw [HV3.out]; rfl, rfl⟩
            · have hk9' : ((k : Int) == 9) = false := by rw [beq_eq_false_iff_ne]; omega
              go_wp2
              refine bodyPost_ret (v := .tuple #[.int .u64 ((mixA y c s : Nat) : Int), .int .i64 ((k + 1 : Nat) : Int)]) (by simp [results, Try.results14, go_sem, HM.out]) rfl ⟨_, rfl, by rw [HV3.out]; rfl, rfl⟩
        · have hd : decide ((c : Int) < 128) = false := decide_eq_false (by omega)
          have HM : Hid _ := mix_mid y c s hy h2
          have HV3 : Hid (vi B pos = vgo B pos f (k + 1) (mixA y (c &&& 127) s)) := by unfold Hid; rw [HV2.out, if_neg h128]
          go_wp2
          go_roundw
          case rel => exact ⟨k + 1, mixA y (c &&& 127) s, s + 7, by omega, by omega, by go_num, by rw [HS.out]; omega, by go_num, by rw [HM.out], by trivial, mixA_lt _ _ hy, by rw [Hf.out]; exact HV3.out⟩
          case measure => simp [intOf]; omega
      · obtain rfl : k = 10 := by omega
        have HV3 : Hid (vi B pos = none) := HV.out
        clear HV hs hB hc
        go_wp2
        refine bodyPost_ret (v := .tuple #[.int .u64 0, .int .i64 (-11)]) (by simp [results, Try.results14, go_sem]) rfl ⟨_, rfl, by rw [HV3.out]; exact ⟨_, by omega, by omega, rfl⟩, rfl⟩
    · have HV3 : Hid (vi B pos = none) := by
        unfold Hid
        rw [HV.out]
        cases hf : 10 - k with
        | zero => rfl
        | succ f => rw [vgo, List.getElem?_eq_none (by omega)]
      clear HV hB hs
      go_wp2
      refine bodyPost_ret (v := .tuple #[.int .u64 0, .int .i64 0]) (by simp [results, Try.results14, go_sem]) rfl ⟨_, rfl, by rw [HV3.out]; exact ⟨0, by omega, by omega, rfl⟩, rfl⟩

end Go.Proofs.Qxb6625448a
