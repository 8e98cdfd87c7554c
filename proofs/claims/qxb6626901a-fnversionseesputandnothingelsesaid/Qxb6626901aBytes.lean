/-
  Seat b6626901a: byte slices: what the walks are told of one, and the contract of 'zzCloneBytes' (12).
-/
import Derived.Test.Qxb6626901aRows
import Derived.WalkKit
import Derived.WalkSpells
import Derived.WalkLawsBesides
import Derived.Deep.OwnRows
import Derived.Deep.QuietTactic
import Derived.BigQuiet
import Derived.Below
namespace Go.Proofs.Qxb6626901a
open Go.RowKit

/-- A slice of bytes as it lies in the world: nil, or an address with its bytes. -/
def Bytes (w : World) (v : Value) : Option (List Int) → Prop
  | none => v = .slice none 0 0
  | some zs => ∃ b off sp cap, v = .slice (some ⟨b, off, sp⟩) zs.length cap ∧ (0 < zs.length → sp = none) ∧ ∀ i, i < zs.length → w.cell? ⟨b, off + i, none⟩ = some (.int .u8 (zs.getD i 0))

/-- .. a slice that lies in a block of its own. -/
def OwnBytes (w : World) (base : Nat) (v : Value) : Option (List Int) → Prop
  | none => v = .slice none 0 0
  | some zs => ∃ g, v = .slice (some ⟨g, 0, none⟩) zs.length zs.length ∧ base ≤ g ∧ w.rowIs g 5 zs.length (fun i => .int .u8 (zs.getD i 0))

def dlen : Option (List Int) → Nat
  | none => 0
  | some zs => zs.length

theorem info5 : (Try.prog.info? 5).map (fun i => (i.zero, i.size, i.bytes)) = some (some (.int .u8 0), 1, 1) := by kernel_rfl

theorem OwnBytes.bytes {w : World} {base : Nat} {v : Value} {d : Option (List Int)} (h : OwnBytes w base v d) : Bytes w v d := by
  cases d with
  | none => exact h
  | some zs =>
    obtain ⟨g, rfl, _, hr⟩ := h
    exact ⟨g, 0, none, _, rfl, fun _ => rfl, fun i hi => by simpa using hr.cell hi⟩

set_option maxHeartbeats 400000 in
theorem clone_nil (w : World) : Calls Try.prog 12 #[.slice none 0 0] w fun e w' => e = .returned (.slice none 0 0) ∧ w' = w := by
  have hn := fun (w : World) => Lib.run_eql_slice_nil (P := Try.prog) w 29 5 none 0 0 0 0 Try.underlying29
  go_enter Try.func12, Try.ntmps12
  go_wp2
  go_ret
  exact ⟨rfl, rfl⟩

set_option maxHeartbeats 400000 in
theorem clone_some (w : World) (zs : List Int) (b off : Nat) (sp : Option Nat) (cap : Nat) (hl : zs.length ≤ 1048576) (hsp : 0 < zs.length → sp = none)
    (hc : ∀ i, i < zs.length → w.cell? ⟨b, off + i, none⟩ = some (.int .u8 (zs.getD i 0))) (hb : 0 < zs.length → b < w.heap.size) :
    Calls Try.prog 12 #[.slice (some ⟨b, off, sp⟩) zs.length cap] w fun e w' =>
      e = .returned (.slice (some ⟨w.heap.size, 0, none⟩) zs.length zs.length) ∧ w'.rowIs w.heap.size 5 zs.length (fun i => .int .u8 (zs.getD i 0)) ∧ Below w.heap.size w w' := by
  have hn := fun (w : World) => Lib.run_eql_slice_nil (P := Try.prog) w 29 5 (some ⟨b, off, sp⟩) zs.length cap 0 0 Try.underlying29
  have hmk := run_make_row' (P := Try.prog) 29 5 (.int .u8 0) 1 Try.underlying29 info5 rfl .i64 .i64 zs.length (by omega) (by omega)
  go_enter Try.func12, Try.ntmps12
  go_wp2
  go_loopw [4] (fun i wr => ∃ k : Nat, k ≤ zs.length ∧ i = .int .i64 k ∧ wr.rowIs w.heap.size 5 zs.length (fun j => if j < k then .int .u8 (zs.getD j 0) else .int .u8 0) ∧ Below w.heap.size w wr)
    (fun i _ => zs.length - (intOf i).toNat)
  case atStart => exact ⟨0, Nat.zero_le _, rfl, (World.rowIs_made w _ _ _).congr (fun i _ => by simp), (Below.refl _ _).alloc (Nat.le_refl _) _⟩
  case round =>
    obtain ⟨k, hk, rfl, hrow, hbel⟩ := hrel
    by_cases hlt : k < zs.length
    · obtain rfl : sp = none := hsp (by omega)
      have hbk := hb (by omega)
      obtain ⟨z, hz⟩ : ∃ z, zs.getD k 0 = z := ⟨_, rfl⟩
      have hck : wr.cell? ⟨b, off + k, none⟩ = some (.int .u8 z) := (hbel.cell (by exact hbk)).trans (by rw [hc k hlt, hz])
      have hok : wr.cell? ⟨w.heap.size, k, none⟩ = some (.int .u8 0) := by rw [hrow.cell hlt]; simp
      have hfk := hrow.frozen k
      have R1 := (hrow.set k (.int .u8 z)).congr (g := fun j => if j < k + 1 then .int .u8 (zs.getD j 0) else .int .u8 0) (by
        intro i _
        by_cases h1 : i = k
        · subst h1; simp only [hz]; simp
        · by_cases h2 : i < k
          · simp [h1, h2, show i < k + 1 by omega]
          · simp [h1, h2, show ¬ i < k + 1 by omega])
      have R2 := hbel.setCell (p := ⟨w.heap.size, k, none⟩) (Nat.le_refl _) (.int .u8 z)
      have HR : Hid (_ ∧ _) := ⟨R1, R2⟩
      clear R1 R2 hrow hbel hc hb hmk hz
      go_wp2
      go_roundw
      case rel => exact ⟨k + 1, by omega, by go_num, HR.out.1, HR.out.2⟩
      case measure => simp [intOf]; omega
    · have hke : k = zs.length := by omega
      subst hke
      go_wp2
      go_ret
      exact ⟨rfl, hrow.congr (fun i hi => by simp [hi]), hbel⟩

/-- 'zzCloneBytes': a copy in a block of its own; nothing that was there has turned. -/
theorem clone_bytes (w : World) (v : Value) (d : Option (List Int)) (h : Bytes w v d) (hl : dlen d ≤ 1048576) :
    Calls Try.prog 12 #[v] w fun e w' => ∃ v', e = .returned v' ∧ OwnBytes w' w.heap.size v' d ∧ Below w.heap.size w w' := by
  cases d with
  | none =>
    obtain rfl : v = .slice none 0 0 := h
    refine (clone_nil w).mono ?_
    rintro e w' ⟨rfl, rfl⟩
    exact ⟨_, rfl, rfl, Below.refl _ _⟩
  | some zs =>
    obtain ⟨b, off, sp, cap, rfl, hsp, hc⟩ := h
    refine (clone_some w zs b off sp cap hl hsp hc (fun h0 => World.block_lt_of_cell? w _ (hc 0 h0))).mono ?_
    rintro e w' ⟨rfl, hr, hb⟩
    exact ⟨_, rfl, ⟨_, rfl, Nat.le_refl _, hr⟩, hb⟩

/-! ### 'zzSameBytes' (14) at two slices that hold the same -/
set_option maxHeartbeats 400000 in
theorem same_nil (w : World) : Calls Try.prog 14 #[.slice none 0 0, .slice none 0 0] w fun e w' => e = .returned (.bool true) ∧ ∃ n, w' = w.drewN n := by
  have hn := fun (w : World) => Lib.run_eql_slice_nil (P := Try.prog) w 29 5 none 0 0 0 0 Try.underlying29
  go_enter Try.func14, Try.ntmps14
  go_wp2
  refine wp_loop_rounds 1 ?_
  rw [rounds_succ]
  go_wp2
  go_ret
  exact ⟨rfl, 0, rfl⟩

set_option maxHeartbeats 400000 in
theorem same_some (w : World) (zs : List Int) (b off : Nat) (sp : Option Nat) (cap : Nat) (b' off' : Nat) (sp' : Option Nat) (cap' : Nat) (hl : zs.length ≤ 9223372036854775807)
    (hsp : 0 < zs.length → sp = none) (hc : ∀ i, i < zs.length → w.cell? ⟨b, off + i, none⟩ = some (.int .u8 (zs.getD i 0)))
    (hsp' : 0 < zs.length → sp' = none) (hc' : ∀ i, i < zs.length → w.cell? ⟨b', off' + i, none⟩ = some (.int .u8 (zs.getD i 0))) :
    Calls Try.prog 14 #[.slice (some ⟨b, off, sp⟩) zs.length cap, .slice (some ⟨b', off', sp'⟩) zs.length cap'] w fun e w' => e = .returned (.bool true) ∧ ∃ n, w' = w.drewN n := by
  have hn := fun (w : World) => Lib.run_eql_slice_nil (P := Try.prog) w 29 5 (some ⟨b, off, sp⟩) zs.length cap 0 0 Try.underlying29
  have hn' := fun (w : World) => Lib.run_eql_slice_nil (P := Try.prog) w 29 5 (some ⟨b', off', sp'⟩) zs.length cap' 0 0 Try.underlying29
  go_enter Try.func14, Try.ntmps14
  go_wp2
  go_loopw [5] (fun i wr => ∃ k n : Nat, k ≤ zs.length ∧ i = .int .i64 k ∧ wr = w.drewN n) (fun i _ => zs.length - (intOf i).toNat)
  case atStart => exact ⟨0, 0, Nat.zero_le _, rfl, rfl⟩
  case round =>
    obtain ⟨k, n, hk, rfl, rfl⟩ := hrel
    by_cases hlt : k < zs.length
    · obtain rfl : sp = none := hsp (by omega)
      obtain rfl : sp' = none := hsp' (by omega)
      obtain ⟨z, hz⟩ : ∃ z, zs.getD k 0 = z := ⟨_, rfl⟩
      have hck : w.cell? ⟨b, off + k, none⟩ = some (.int .u8 z) := by rw [hc k hlt, hz]
      have hck' : w.cell? ⟨b', off' + k, none⟩ = some (.int .u8 z) := by rw [hc' k hlt, hz]
      have hlt' : (k : Int) < (zs.length : Int) := by omega
      clear hc hc' hz
      go_wp2
      go_quiet (fail)
      go_wp2
      go_roundw
      case rel => exact ⟨k + 1, _, by omega, by go_num, rfl⟩
      case measure => simp [intOf]; omega
    · go_wp2
      go_ret
      exact ⟨rfl, n, rfl⟩

/-- 'zzSameBytes' at two slices that hold the same: true. -/
theorem same_bytes (w : World) (u v : Value) (d : Option (List Int)) (hu : Bytes w u d) (hv : Bytes w v d) (hl : dlen d ≤ 1048576) :
    Calls Try.prog 14 #[u, v] w fun e w' => e = .returned (.bool true) ∧ ∃ n, w' = w.drewN n := by
  cases d with
  | none =>
    obtain rfl : u = .slice none 0 0 := hu
    obtain rfl : v = .slice none 0 0 := hv
    exact same_nil w
  | some zs =>
    obtain ⟨b, off, sp, cap, rfl, hsp, hc⟩ := hu
    obtain ⟨b', off', sp', cap', rfl, hsp', hc'⟩ := hv
    exact same_some w zs b off sp cap b' off' sp' cap' (by simp only [dlen] at hl; omega) hsp hc hsp' hc'

end Go.Proofs.Qxb6626901a
