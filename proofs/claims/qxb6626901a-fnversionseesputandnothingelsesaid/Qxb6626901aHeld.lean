/-
  Seat b6626901a: the script of puts as it lies in memory ('Held'), the bounds ('zzBytes_..': 5, 11; 'zzHeldBytes': 6).
-/
import Derived.Test.Qxb6626901aBytes
namespace Go.Proofs.Qxb6626901a
open Go.RowKit

/-- One put of the script: the key, the version, the value (nil or bytes). -/
structure Ob where
  key : ByteArray
  ver : Int
  val : Option (List Int)

/-- The three cells of one element, in the world. -/
def ObAt (w : World) (b o : Nat) (x : Ob) : Prop :=
  w.cell? ⟨b, o, none⟩ = some (.string x.key) ∧ w.cell? ⟨b, o + 1, none⟩ = some (.int .u64 x.ver) ∧ ∃ v, w.cell? ⟨b, o + 2, none⟩ = some v ∧ Bytes w v x.val

/-- Where the elements lie: behind the address, three cells an element. -/
def Rows3 (w : World) (a : Option Addr) (L : List Ob) : Prop := 0 < L.length → ∃ b off, a = some ⟨b, off, none⟩ ∧ ∀ i x, L[i]? = some x → ObAt w b (off + i * 3) x

/-- A slice of puts. -/
def Held (w : World) (v : Value) (L : List Ob) : Prop := ∃ a cap, v = .slice a L.length cap ∧ Rows3 w a L

/-- The bounds that 'zzBytes_..' checks. -/
def Small (L : List Ob) : Prop := ∀ x ∈ L, x.key.size ≤ 1048576 ∧ dlen x.val ≤ 1048576

theorem Bytes.slice {w : World} {v : Value} {d : Option (List Int)} (h : Bytes w v d) : ∃ a c, v = .slice a (dlen d) c := by
  cases d with
  | none => exact ⟨none, 0, h⟩
  | some zs => obtain ⟨b, off, sp, cap, rfl, _⟩ := h; exact ⟨_, _, rfl⟩

theorem small_snoc {L : List Ob} {k : Nat} {x : Ob} (h : Small (L.take k)) (hx : L[k]? = some x) (h1 : x.key.size ≤ 1048576) (h2 : dlen x.val ≤ 1048576) : Small (L.take (k + 1)) := by
  intro y hy
  rw [List.take_add_one, hx] at hy
  simp only [Option.toList_some, List.mem_append, List.mem_singleton] at hy
  rcases hy with hy | rfl
  · exact h y hy
  · exact ⟨h1, h2⟩

/-- What a check leaves: a bool; where it is true, the bounds; the world as it was. -/
def Checked (p : Prop) (w : World) (e : Ending) (w' : World) : Prop := ∃ r, e = .returned (.bool r) ∧ (r = true → p) ∧ w' = w
theorem Checked.no {p : Prop} {w : World} : Checked p w (.returned (.bool false)) w := ⟨false, rfl, by simp, rfl⟩
theorem Checked.yes {p : Prop} {w : World} (h : p) : Checked p w (.returned (.bool true)) w := ⟨true, rfl, fun _ => h, rfl⟩

/-- The lengths are lengths. -/
def Fits (L : List Ob) : Prop := ∀ x ∈ L, x.key.size ≤ 9223372036854775807 ∧ dlen x.val ≤ 9223372036854775807

set_option maxHeartbeats 1000000 in
/-- 'zzBytes_FnVersionAnswersLastPut'. -/
theorem zzBytes5 (w : World) (L : List Ob) (a : Option Addr) (cap : Nat) (key : ByteArray) (ver : Int) (hL : L.length ≤ 9223372036854775807) (hkey : key.size ≤ 9223372036854775807)
    (hR : Rows3 w a L) (hF : Fits L) :
    Calls Try.prog 5 #[.slice a L.length cap, .string key, .int .u64 ver] w (Checked (Small L ∧ key.size ≤ 1048576) w) := by
  by_cases hbig : 1048576 < L.length
  · go_enter Try.func5, Try.ntmps5
    go_wp2
    go_ret
    exact Checked.no
  have hbg : decide ((1048576 : Int) < (L.length : Int)) = false := decide_eq_false (by omega)
  go_enter Try.func5, Try.ntmps5
  go_wp2
  go_loop [7, 8] (fun zn i => ∃ k n : Nat, k ≤ L.length ∧ n ≤ 1048576 ∧ i = .int .i64 k ∧ zn = .int .i64 n ∧ Hid (Small (L.take k))) (fun _ i => L.length - (intOf i).toNat)
  case atStart => exact ⟨0, L.length, by omega, by omega, rfl, rfl, by simp [Hid, Small]⟩
  case round =>
    obtain ⟨k, n, hk, hn, rfl, rfl, hS⟩ := hrel
    by_cases hlt : k < L.length
    · obtain ⟨b, off, rfl, hc⟩ := hR (by omega)
      obtain ⟨x, hx⟩ : ∃ x, L[k]? = some x := ⟨_, List.getElem?_eq_getElem hlt⟩
      obtain ⟨c0, c1, v, c2, hv⟩ := hc k x hx
      obtain ⟨a, c, rfl⟩ := hv.slice
      obtain ⟨s1, s2⟩ := hF x (List.mem_of_getElem? hx)
      have HX : Hid (L[k]? = some x) := hx
      clear hx hc hF hv
      go_wp2
      all_goals first
        | (go_ret; exact Checked.no)
        | (go_round
           case rel => exact ⟨k + 1, n + x.key.size + dlen x.val, by omega, by omega, by go_num, by go_num, small_snoc hS.out HX.out (by omega) (by omega)⟩
           case measure => simp [intOf]; omega)
    · have hkL : L.take k = L := List.take_of_length_le (by omega)
      have HS : Hid (Small L) := by rw [hkL] at hS; exact hS
      clear hkL hS
      go_wp2
      all_goals go_ret
      all_goals first
        | exact Checked.no
        | exact Checked.yes ⟨HS.out, by omega⟩

set_option maxHeartbeats 1000000 in
/-- 'zzBytes_FnVersionSeesPutAndNothingElse'. -/
theorem zzBytes11 (w : World) (L : List Ob) (a : Option Addr) (cap : Nat) (key : ByteArray) (ver : Int) (k2 : ByteArray) (v2 : Int) (a2 : Option Addr) (n2 c2 : Nat) (hL : L.length ≤ 9223372036854775807) (hkey : key.size ≤ 9223372036854775807)
    (hk2 : k2.size ≤ 9223372036854775807) (hn2 : n2 ≤ 9223372036854775807) (hR : Rows3 w a L) (hF : Fits L) :
    Calls Try.prog 11 #[.slice a L.length cap, .string key, .int .u64 ver, .string k2, .int .u64 v2, .slice a2 n2 c2] w (Checked (Small L ∧ key.size ≤ 1048576 ∧ k2.size ≤ 1048576 ∧ n2 ≤ 1048576) w) := by
  by_cases hbig : 1048576 < L.length
  · go_enter Try.func11, Try.ntmps11
    go_wp2
    go_ret
    exact Checked.no
  have hbg : decide ((1048576 : Int) < (L.length : Int)) = false := decide_eq_false (by omega)
  go_enter Try.func11, Try.ntmps11
  go_wp2
  go_loop [13, 14] (fun zn i => ∃ k n : Nat, k ≤ L.length ∧ n ≤ 1048576 ∧ i = .int .i64 k ∧ zn = .int .i64 n ∧ Hid (Small (L.take k))) (fun _ i => L.length - (intOf i).toNat)
  case atStart => exact ⟨0, L.length, by omega, by omega, rfl, rfl, by simp [Hid, Small]⟩
  case round =>
    obtain ⟨k, n, hk, hn, rfl, rfl, hS⟩ := hrel
    by_cases hlt : k < L.length
    · obtain ⟨b, off, rfl, hc⟩ := hR (by omega)
      obtain ⟨x, hx⟩ : ∃ x, L[k]? = some x := ⟨_, List.getElem?_eq_getElem hlt⟩
      obtain ⟨c0, c1, v, c2, hv⟩ := hc k x hx
      obtain ⟨a, c, rfl⟩ := hv.slice
      obtain ⟨s1, s2⟩ := hF x (List.mem_of_getElem? hx)
      have HX : Hid (L[k]? = some x) := hx
      clear hx hc hF hv
      go_wp2
      all_goals first
        | (go_ret; exact Checked.no)
        | (go_round
           case rel => exact ⟨k + 1, n + x.key.size + dlen x.val, by omega, by omega, by go_num, by go_num, small_snoc hS.out HX.out (by omega) (by omega)⟩
           case measure => simp [intOf]; omega)
    · have hkL : L.take k = L := List.take_of_length_le (by omega)
      have HS : Hid (Small L) := by rw [hkL] at hS; exact hS
      clear hkL hS
      go_wp2
      all_goals go_ret
      all_goals first
        | exact Checked.no
        | exact Checked.yes ⟨HS.out, by omega, by omega, by omega⟩

/-- What 'zzHeldBytes' leaves: a number that is not great; the world as it was. -/
def Summed (w : World) (e : Ending) (w' : World) : Prop := ∃ t : Nat, e = .returned (.int .i64 t) ∧ t ≤ 3145728 ∧ w' = w
theorem Summed.mk {w : World} {i : Int} (t : Nat) (hi : i = (t : Int)) (h : t ≤ 3145728) : Summed w (.returned (.int .i64 i)) w := ⟨t, by rw [hi], h, rfl⟩

set_option maxHeartbeats 1000000 in
/-- 'zzHeldBytes', the bounds known. -/
theorem zzHeld6 (w : World) (L : List Ob) (a : Option Addr) (cap : Nat) (hL : L.length ≤ 9223372036854775807) (hR : Rows3 w a L) (hF : Small L) :
    Calls Try.prog 6 #[.slice a L.length cap] w (Summed w) := by
  go_enter Try.func6, Try.ntmps6
  go_wp2
  go_loop [3, 4] (fun t i => ∃ k n : Nat, k ≤ L.length ∧ n ≤ 1048576 ∧ i = .int .i64 k ∧ t = .int .i64 n) (fun _ i => L.length - (intOf i).toNat)
  case atStart => exact ⟨0, 0, by omega, by omega, rfl, rfl⟩
  case round =>
    obtain ⟨k, n, hk, hn, rfl, rfl⟩ := hrel
    by_cases hlt : k < L.length
    · obtain ⟨b, off, rfl, hc⟩ := hR (by omega)
      obtain ⟨x, hx⟩ : ∃ x, L[k]? = some x := ⟨_, List.getElem?_eq_getElem hlt⟩
      obtain ⟨c0, c1, v, c2, hv⟩ := hc k x hx
      obtain ⟨a, c, rfl⟩ := hv.slice
      obtain ⟨s1, s2⟩ := hF x (List.mem_of_getElem? hx)
      clear hx hc hF hv
      go_wp2
      all_goals first
        | (go_round
           case rel => exact ⟨k + 1, n + 8 + x.key.size + dlen x.val, by omega, by omega, by go_num, by go_num⟩
           case measure => simp [intOf]; omega)
        | (go_ret; refine Summed.mk (n + 8 + x.key.size) ?_ ?_; (focus (simp; done)); omega)
        | (go_ret; refine Summed.mk (n + 8 + x.key.size + dlen x.val) ?_ ?_; (focus (simp; done)); omega)
    · go_wp2
      go_ret
      exact Summed.mk n (by simp) (by omega)

end Go.Proofs.Qxb6626901a
