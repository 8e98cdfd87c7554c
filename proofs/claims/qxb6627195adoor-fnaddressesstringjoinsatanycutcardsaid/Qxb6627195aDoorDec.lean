/-
  Seat b6627195aD: a buffer of bytes ('Buf'); 'netip.appendDecimal' (24), 'zzAppendDec' (15).
-/
import Derived.Test.Qxb6627195aDoorRows
import Derived.Test.Qxb6627195aDoorPlain
import Derived.WalkKit
import Derived.WalkSpells
import Derived.WalkLawsBesides
import Derived.OwnWalk
import Derived.Below
namespace Go.Proofs.Qxb6627195aDoor
open Go.RowKit
set_option linter.unusedSimpArgs false
set_option linter.unusedVariables false

/-- A byte as a cell. -/
def byteV (c : UInt8) : Value := .int .u8 (c.toNat : Int)

/-- Block g holds a buffer of capacity cap whose text so far is t. -/
def Buf (w : World) (g cap : Nat) (t : List UInt8) : Prop := w.ownsRow 0 5 1 (.slice (some ⟨g, 0, none⟩) t.length cap) t.length (t.map byteV)

theorem info5 : (Tryd.prog.info? 5).map (fun i => (i.zero, i.size, i.bytes)) = some (some (.int .u8 0), 1, 1) := by kernel_rfl

def digits : ByteArray := ⟨#[48, 49, 50, 51, 52, 53, 54, 55, 56, 57, 97, 98, 99, 100, 101, 102]⟩

theorem run_digit0 (w : World) : (Instr.index 9 (.string digits) (.int .u8 0)).run Tryd.prog w = .ok (.int .u8 48) w := by kernel_rfl
theorem run_digit1 (w : World) : (Instr.index 9 (.string digits) (.int .u8 1)).run Tryd.prog w = .ok (.int .u8 49) w := by kernel_rfl
theorem run_digit2 (w : World) : (Instr.index 9 (.string digits) (.int .u8 2)).run Tryd.prog w = .ok (.int .u8 50) w := by kernel_rfl
theorem run_digit3 (w : World) : (Instr.index 9 (.string digits) (.int .u8 3)).run Tryd.prog w = .ok (.int .u8 51) w := by kernel_rfl
theorem run_digit4 (w : World) : (Instr.index 9 (.string digits) (.int .u8 4)).run Tryd.prog w = .ok (.int .u8 52) w := by kernel_rfl
theorem run_digit5 (w : World) : (Instr.index 9 (.string digits) (.int .u8 5)).run Tryd.prog w = .ok (.int .u8 53) w := by kernel_rfl
theorem run_digit6 (w : World) : (Instr.index 9 (.string digits) (.int .u8 6)).run Tryd.prog w = .ok (.int .u8 54) w := by kernel_rfl
theorem run_digit7 (w : World) : (Instr.index 9 (.string digits) (.int .u8 7)).run Tryd.prog w = .ok (.int .u8 55) w := by kernel_rfl
theorem run_digit8 (w : World) : (Instr.index 9 (.string digits) (.int .u8 8)).run Tryd.prog w = .ok (.int .u8 56) w := by kernel_rfl
theorem run_digit9 (w : World) : (Instr.index 9 (.string digits) (.int .u8 9)).run Tryd.prog w = .ok (.int .u8 57) w := by kernel_rfl
theorem run_digit (d : Nat) (h : d ≤ 9) (w : World) : (Instr.index 9 (.string digits) (.int .u8 (d : Int))).run Tryd.prog w = .ok (.int .u8 (48 + (d : Int))) w := by
  have : d = 0 ∨ d = 1 ∨ d = 2 ∨ d = 3 ∨ d = 4 ∨ d = 5 ∨ d = 6 ∨ d = 7 ∨ d = 8 ∨ d = 9 := by omega
  rcases this with rfl | rfl | rfl | rfl | rfl | rfl | rfl | rfl | rfl | rfl
  · exact run_digit0 w
  · exact run_digit1 w
  · exact run_digit2 w
  · exact run_digit3 w
  · exact run_digit4 w
  · exact run_digit5 w
  · exact run_digit6 w
  · exact run_digit7 w
  · exact run_digit8 w
  · exact run_digit9 w

theorem wpList_digit (w : World) {ops : Array Oper} {rest : List Oper} {o : Oper} {a : Act} {Q : Exit → Act → World → Prop}
    (hg : o.guard = none) (x : Operand) (hop : o.op = Op.index 9 (.const (.string digits)) x) (n : Int) (hx : a.eval x = .int .u8 n) (h0 : 0 ≤ n) (h9 : n ≤ 9)
    (hK : wpList Tryd.prog ops Q rest (a.put o.dst (.int .u8 (48 + n))) w) : wpList Tryd.prog ops Q (o :: rest) a w := by
  refine wpList_plain hg fun K hK' => ?_
  obtain ⟨d, rfl⟩ := Int.eq_ofNat_of_zero_le h0
  have hrun := run_digit d (by omega) w
  unfold Oper.wp
  have hc : a.eval (Operand.const (Value.string digits)) = .string digits := rfl
  simp [execOp, hop, hx, hc, hrun, Result.andThen]
  exact hK' _ _ hK

theorem Buf.lt {w : World} {g cap : Nat} {t : List UInt8} (h : Buf w g cap t) : g < w.heap.size := (World.ownsRow.lt h g rfl).2

theorem dig_int {n : Nat} (h : n ≤ 9) : ((dig n).toNat : Int) = 48 + (n : Int) := by rw [dig_toNat h]; omega

/-- 'append(buf, b)' of one byte, within the capacity: the byte was laid in a block of its own first. -/
theorem wpList_append_buf (w0 : World) {ops : Array Oper} {rest : List Oper} {o : Oper} {a : Act} {Q : Exit → Act → World → Prop}
    (hg : o.guard = none) (s x : Operand) (hop : o.op = Op.call { callee := Callee.builtin Builtin.append, args := #[s, x], argTypes := #[43, 43] })
    (g k cap : Nat) (t : List UInt8) (n : Int) (c : UInt8) (hs : a.eval s = .slice (some ⟨g, 0, none⟩) k cap) (hk : k = t.length) (hx : a.eval x = .slice (some ⟨w0.heap.size, 0, none⟩) 1 1)
    (hb : Buf w0 g cap t) (hc : (c.toNat : Int) = n) (hfit : k + 1 ≤ cap)
    (hK : ∀ w', Buf w' g cap (t ++ [c]) → w0.grownBy w' (some g) → wpList Tryd.prog ops Q rest (a.put o.dst (.slice (some ⟨g, 0, none⟩) (k + 1) cap)) w') :
    wpList Tryd.prog ops Q (o :: rest) a (w0.alloc (.cells #[.int .u8 n] 5)) := by
  obtain ⟨i0, hi, hz0, hz1, hz2⟩ := info_parts info5
  subst hk
  refine wpList_append_fits _ hg s x 43 hop 0 5 i0 1 Tryd.underlying43 hi hz1 g t.length cap (t.map byteV) hs (hb.alloc _) ⟨w0.heap.size, 0, none⟩ 1 1 [.int .u8 n] hx rfl (cell_one_new _ _ _) (ints_oneCell .u8 [n]) hfit ?_
  intro w' h1 h2
  refine hK w' ?_ ((World.grownBy_alloc w0 _ _).trans h2)
  have e : (t ++ [c]).map byteV = t.map byteV ++ [.int .u8 n] := by simp [byteV, hc]
  unfold Buf
  rw [e, List.length_append]
  exact h1

set_option maxHeartbeats 400000 in
theorem appendDecimal_any (w : World) (g cap : Nat) (t : List UInt8) (v : Nat) (hv : v < 256) (hb : Buf w g cap t) (hfit : t.length + (dec v).length ≤ cap) :
    Calls Tryd.prog 24 #[.slice (some ⟨g, 0, none⟩) t.length cap, .int .u8 (v : Int)] w fun e w' =>
      e = .returned (.slice (some ⟨g, 0, none⟩) (t.length + (dec v).length) cap) ∧ Hid (Buf w' g cap (t ++ dec v)) ∧ Hid (w.grownBy w' (some g)) := by
  have e1 := dig_int (n := v / 100) (by omega)
  have e2 := dig_int (n := v / 10 % 10) (by omega)
  have e3 := dig_int (n := v % 10) (by omega)
  have E1 : Hid _ := e1
  have E2 : Hid _ := e2
  have E3 : Hid _ := e3
  clear e1 e2 e3
  by_cases h100 : 100 ≤ v
  · have hd : dec v = [dig (v / 100), dig (v / 10 % 10), dig (v % 10)] := by simp [dec, h100, show 10 ≤ v by omega]
    rw [hd] at hfit ⊢
    simp only [List.length_cons, List.length_nil] at hfit
    have h10 : 10 ≤ v := by omega
    go_enter Tryd.func24, Tryd.ntmps24
    go_wp2_with (first
      | refine wpList_digit _ rfl _ rfl _ rfl (by omega) (by omega) ?_
      | (at_builtin; refine wpList_append_buf _ rfl (.tmp 7) (.tmp 11) rfl g _ cap t _ (dig (v / 100)) rfl rfl rfl hb (by rw [E1.out]; omega) (by omega) ?_; intro w1 hb1 hg1)
      | (at_builtin; refine wpList_append_buf _ rfl (.tmp 15) (.tmp 20) rfl g _ cap (t ++ [dig (v / 100)]) _ (dig (v / 10 % 10)) rfl (by simp) rfl hb1 (by rw [E2.out]; omega) (by omega) ?_; intro w2 hb2 hg2)
      | (at_builtin; refine wpList_append_buf _ rfl (.tmp 22) (.tmp 26) rfl g _ cap (t ++ [dig (v / 100)] ++ [dig (v / 10 % 10)]) _ (dig (v % 10)) rfl (by simp) rfl hb2 (by rw [E3.out]; omega) (by omega) ?_; intro w3 hb3 hg3))
    go_ret
    exact ⟨by simp, by simpa [Hid] using hb3, (hg1.trans hg2).trans hg3⟩
  · by_cases h10 : 10 ≤ v
    · have hd : dec v = [dig (v / 10 % 10), dig (v % 10)] := by simp [dec, h100, h10]
      rw [hd] at hfit ⊢
      simp only [List.length_cons, List.length_nil] at hfit
      go_enter Tryd.func24, Tryd.ntmps24
      go_wp2_with (first
      | refine wpList_digit _ rfl _ rfl _ rfl (by omega) (by omega) ?_
        | (at_builtin; refine wpList_append_buf _ rfl (.tmp 15) (.tmp 20) rfl g _ cap t _ (dig (v / 10 % 10)) rfl rfl rfl hb (by rw [E2.out]; omega) (by omega) ?_; intro w2 hb2 hg2)
        | (at_builtin; refine wpList_append_buf _ rfl (.tmp 22) (.tmp 26) rfl g _ cap (t ++ [dig (v / 10 % 10)]) _ (dig (v % 10)) rfl (by simp) rfl hb2 (by rw [E3.out]; omega) (by omega) ?_; intro w3 hb3 hg3))
      go_ret
      exact ⟨by simp, by simpa [Hid] using hb3, hg2.trans hg3⟩
    · have hd : dec v = [dig (v % 10)] := by simp [dec, h100, h10]
      rw [hd] at hfit ⊢
      simp only [List.length_cons, List.length_nil] at hfit
      go_enter Tryd.func24, Tryd.ntmps24
      go_wp2_with (first
      | refine wpList_digit _ rfl _ rfl _ rfl (by omega) (by omega) ?_
        | (at_builtin; refine wpList_append_buf _ rfl (.tmp 22) (.tmp 26) rfl g _ cap t _ (dig (v % 10)) rfl rfl rfl hb (by rw [E3.out]; omega) (by omega) ?_; intro w3 hb3 hg3))
      go_ret
      exact ⟨by simp, hb3, hg3⟩

set_option maxHeartbeats 400000 in
theorem appendDec_any (w : World) (g cap : Nat) (t : List UInt8) (v : Nat) (hv : v < 256) (hb : Buf w g cap t) (hfit : t.length + (dec v).length ≤ cap) :
    Calls Tryd.prog 15 #[.slice (some ⟨g, 0, none⟩) t.length cap, .int .u8 (v : Int)] w fun e w' =>
      e = .returned (.slice (some ⟨g, 0, none⟩) (t.length + (dec v).length) cap) ∧ Hid (Buf w' g cap (t ++ dec v)) ∧ Hid (w.grownBy w' (some g)) := by
  have e1 := dig_int (n := v / 100) (by omega)
  have e2 := dig_int (n := v / 10 % 10) (by omega)
  have e3 := dig_int (n := v % 10) (by omega)
  have E1 : Hid _ := e1
  have E2 : Hid _ := e2
  have E3 : Hid _ := e3
  clear e1 e2 e3
  by_cases h100 : 100 ≤ v
  · have hd : dec v = [dig (v / 100), dig (v / 10 % 10), dig (v % 10)] := by simp [dec, h100, show 10 ≤ v by omega]
    rw [hd] at hfit ⊢
    simp only [List.length_cons, List.length_nil] at hfit
    have h10 : 10 ≤ v := by omega
    go_enter Tryd.func15, Tryd.ntmps15
    go_wp2_with (first
      | (at_builtin; refine wpList_append_buf _ rfl (.tmp 7) (.tmp 11) rfl g _ cap t _ (dig (v / 100)) rfl rfl rfl hb (by rw [E1.out]; omega) (by omega) ?_; intro w1 hb1 hg1)
      | (at_builtin; refine wpList_append_buf _ rfl (.tmp 15) (.tmp 20) rfl g _ cap (t ++ [dig (v / 100)]) _ (dig (v / 10 % 10)) rfl (by simp) rfl hb1 (by rw [E2.out]; omega) (by omega) ?_; intro w2 hb2 hg2)
      | (at_builtin; refine wpList_append_buf _ rfl (.tmp 22) (.tmp 26) rfl g _ cap (t ++ [dig (v / 100)] ++ [dig (v / 10 % 10)]) _ (dig (v % 10)) rfl (by simp) rfl hb2 (by rw [E3.out]; omega) (by omega) ?_; intro w3 hb3 hg3))
    go_ret
    exact ⟨by simp, by simpa [Hid] using hb3, (hg1.trans hg2).trans hg3⟩
  · by_cases h10 : 10 ≤ v
    · have hd : dec v = [dig (v / 10 % 10), dig (v % 10)] := by simp [dec, h100, h10]
      rw [hd] at hfit ⊢
      simp only [List.length_cons, List.length_nil] at hfit
      go_enter Tryd.func15, Tryd.ntmps15
      go_wp2_with (first
        | (at_builtin; refine wpList_append_buf _ rfl (.tmp 15) (.tmp 20) rfl g _ cap t _ (dig (v / 10 % 10)) rfl rfl rfl hb (by rw [E2.out]; omega) (by omega) ?_; intro w2 hb2 hg2)
        | (at_builtin; refine wpList_append_buf _ rfl (.tmp 22) (.tmp 26) rfl g _ cap (t ++ [dig (v / 10 % 10)]) _ (dig (v % 10)) rfl (by simp) rfl hb2 (by rw [E3.out]; omega) (by omega) ?_; intro w3 hb3 hg3))
      go_ret
      exact ⟨by simp, by simpa [Hid] using hb3, hg2.trans hg3⟩
    · have hd : dec v = [dig (v % 10)] := by simp [dec, h100, h10]
      rw [hd] at hfit ⊢
      simp only [List.length_cons, List.length_nil] at hfit
      go_enter Tryd.func15, Tryd.ntmps15
      go_wp2_with (first
        | (at_builtin; refine wpList_append_buf _ rfl (.tmp 22) (.tmp 26) rfl g _ cap t _ (dig (v % 10)) rfl rfl rfl hb (by rw [E3.out]; omega) (by omega) ?_; intro w3 hb3 hg3))
      go_ret
      exact ⟨by simp, hb3, hg3⟩

end Go.Proofs.Qxb6627195aDoor
