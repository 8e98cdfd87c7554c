/-
  Seat b6626901a: the walk of 'FnVersionAnswersLastPut' (3).
-/
import Derived.Test.Qxb6626901aIs
namespace Go.Proofs.Qxb6626901a
open Go.RowKit
set_option linter.unusedSimpArgs false
set_option linter.unusedVariables false

/-- Does this put meet the pair asked for? -/
def Hit (key : ByteArray) (v : Int) (x : Ob) : Prop := x.key = key ∧ x.ver = v

theorem putF_miss (f : List UInt8 → Int → Option (Option (List Int))) (key : ByteArray) (v : Int) (x : Ob) (h : ¬ Hit key v x) : putF f x.key.data.toList x.ver x.val key.data.toList v = f key.data.toList v := by
  unfold putF
  rw [if_neg]
  rintro ⟨h1, h2⟩
  refine h ⟨?_, h2.symm⟩
  have : key.data = x.key.data := Array.toList_inj.1 h1
  cases hk : key; cases hx : x.key
  simp_all

theorem fold_miss (key : ByteArray) (v : Int) : ∀ (L : List Ob) (f : List UInt8 → Int → Option (Option (List Int))), (∀ x ∈ L, ¬ Hit key v x) → (L.foldl (fun f x => putF f x.key.data.toList x.ver x.val) f) key.data.toList v = f key.data.toList v
  | [], f, _ => rfl
  | x :: L, f, h => by
    rw [List.foldl_cons, fold_miss key v L _ (fun y hy => h y (by simp [hy]))]
    exact putF_miss f key v x (h x (by simp))

theorem content_none {L : List Ob} {key : ByteArray} {v : Int} (h : ∀ (j : Nat) (x : Ob), L[j]? = some x → ¬ Hit key v x) : content L key.data.toList v = none := by
  unfold content
  rw [fold_miss key v L _ (fun x hx => by obtain ⟨j, hj⟩ := List.getElem?_of_mem hx; exact h j x hj)]

theorem content_last {L : List Ob} {key : ByteArray} {v : Int} {i : Nat} {x : Ob} (hx : L[i]? = some x) (hit : Hit key v x) (h : ∀ (j : Nat) (y : Ob), i < j → L[j]? = some y → ¬ Hit key v y) : content L key.data.toList v = some x.val := by
  have hs : content L = (L.drop (i + 1)).foldl (fun f x => putF f x.key.data.toList x.ver x.val) (content (L.take (i + 1))) := by
    unfold content
    rw [← List.foldl_append, List.take_append_drop]
  rw [hs, fold_miss key v _ _ (fun y hy => ?_), content_snoc hx]
  · obtain ⟨rfl, rfl⟩ := hit
    simp [putF]
  · obtain ⟨j, hj⟩ := List.getElem?_of_mem hy
    rw [List.getElem?_drop] at hj
    exact h (i + 1 + j) y (by omega) hj

theorem hit_of {key : ByteArray} {v : Int} {x : Ob} (h1 : x.key.toList = key.toList) (h2 : (x.ver == v) = true) : Hit key v x :=
  ⟨WideShapes.bytes_inj (by rw [← ByteArray.toList_eq, ← ByteArray.toList_eq]; exact h1), by simpa using h2⟩

theorem miss_step {L : List Ob} {key : ByteArray} {v : Int} {k : Nat} {x : Ob} (hN : ∀ (j : Nat) (x : Ob), ((k : Nat) : Int) < (j : Int) → L[j]? = some x → ¬ Hit key v x) (hx : L[k]? = some x) (h : ¬ Hit key v x) :
    ∀ (j : Nat) (x : Ob), ((k : Nat) : Int) - 1 < (j : Int) → L[j]? = some x → ¬ Hit key v x := by
  intro j y hj hy
  by_cases e : j = k
  · subst e
    rw [hx] at hy
    obtain rfl := Option.some.inj hy
    exact h
  · exact hN j y (by omega) hy

def LawPost (w : World) (e : Ending) (w' : World) : Prop := e = .returned (.bool true) ∧ Below w.heap.size w w'

set_option maxHeartbeats 1000000 in
theorem law3_front (w : World) (L : List Ob) (a : Option Addr) (cap : Nat) (key : ByteArray) (v : Int) (hL : L.length ≤ 9223372036854775807) (hkey : key.size ≤ 9223372036854775807) (hwf : (Lit.int .u64 v).wf = true)
    (hR : Rows3 w a L) (hF : Fits L) (hW : Wf L) :
    Calls Try.prog 3 #[.slice a L.length cap, .string key, .int .u64 v] w (LawPost w) := by
  have Hwf : Hid _ := hwf
  clear hwf
  go_enter Try.func3, Try.ntmps3
  go_wp2_with fail
  refine (zzBytes5 w L a cap key v hL hkey hR hF).mono ?_
  rintro e w0 ⟨r, rfl, hr, rfl⟩
  cases r
  · clear hr
    go_wp2_with fail
    go_ret
    exact ⟨rfl, Below.refl _ _⟩
  obtain ⟨hS, hks⟩ := hr rfl
  clear hr
  by_cases h16 : 65536 < L.length
  · go_wp2_with fail
    go_ret
    exact ⟨rfl, Below.refl _ _⟩
  have e16 : decide ((65536 : Int) < (L.length : Int)) = false := decide_eq_false (by omega)
  by_cases hk16 : 65536 < key.size
  · go_wp2_with fail
    go_ret
    exact ⟨rfl, Below.refl _ _⟩
  have ek16 : decide ((65536 : Int) < (key.size : Int)) = false := decide_eq_false (by omega)
  go_wp2_with fail
  refine (zzHeld6 _ L a cap hL hR hS).mono ?_
  rintro e w0 ⟨t, rfl, ht, rfl⟩
  by_cases hsum : 1048576 < t + key.size
  · go_wp2_with fail
    go_ret
    exact ⟨rfl, Below.refl _ _⟩
  have esum : decide ((1048576 : Int) < (t : Int) + (key.size : Int)) = false := decide_eq_false (by omega)
  go_wp2_with fail
  refine (clone_held _ a cap L hR (by omega) hS).mono ?_
  rintro e w1 ⟨a', c', rfl, hR1, hb1⟩
  go_wp2_with fail
  refine (build8 _ a' c' L hR1 (by omega) hS hW).mono ?_
  rintro e w2 ⟨rfl, ⟨vs, hSI⟩, hb2⟩
  go_wp2_with fail
  have hkm : key.size ≤ maxLen := by unfold maxLen; omega
  refine (version9 hSI hb2.size hkm Hwf.out).mono ?_
  rintro e w3 ⟨hans, ⟨vs3, hSI3⟩, hK3⟩
  clear hkm
  rcases hans with ⟨hno, rfl⟩ | ⟨x, d, hd, hx, rfl⟩
  · have Hno : Hid _ := hno
    have HB : Hid (Below w1.heap.size w1 w3) := hb2.trans hK3.below
    clear hno hK3 hb2 hSI hSI3 hR hF hW hS
    go_wp2_with fail
    have HB4 : Hid (Below w1.heap.size w1 (w3.alloc (.cells #[.string ⟨#[]⟩, .int .u64 0, .slice none 0 0] 31))) := HB.out.alloc HB.out.size _
    go_loop [10, 11, 12] (fun fo wa i => ∃ m : Int, -1 ≤ m ∧ m < L.length ∧ fo = .bool false ∧ wa = .slice none 0 0 ∧ i = .int .i64 m ∧ Hid (∀ (j : Nat) (x : Ob), m < j → L[j]? = some x → ¬ Hit key v x)) (fun _ _ i => (intOf i + 1).toNat)
    case atStart => exact ⟨_, by omega, by omega, rfl, rfl, rfl, fun j x hj hx => by have := (List.getElem?_eq_some_iff.1 hx).1; omega⟩
    case round =>
      obtain ⟨m, hm0, hm1, rfl, rfl, rfl, hN⟩ := hrel
      by_cases h0 : 0 ≤ m
      · obtain ⟨k, rfl⟩ := Int.eq_ofNat_of_zero_le h0
        have hlt : k < L.length := by omega
        obtain ⟨b, off, rfl, hc⟩ := hR1 (by omega)
        obtain ⟨x, hx⟩ : ∃ x, L[k]? = some x := ⟨_, List.getElem?_eq_getElem hlt⟩
        obtain ⟨c0, c1, y, c2, hv⟩ := (hc k x hx).below HB4.out
        have hnh : ¬ Hit key v x := fun hh => by
          have := content_last hx hh (fun j z hj hz => hN.out j z (by omega) hz)
          rw [Hno.out] at this
          cases this
        have HX : Hid _ := miss_step hN.out hx hnh
        have Hnh : Hid (¬ Hit key v x) := hnh
        clear hx hc hv hnh
        go_wp2
        all_goals first
          | exact absurd (hit_of ‹_› ‹_›) Hnh.out
          | (go_round
             case rel => exact ⟨(k : Int) - 1, by omega, by omega, rfl, rfl, rfl, HX⟩
             case measure => simp [intOf] <;> omega)
      · have hm : m = -1 := by omega
        subst hm
        clear HB4
        go_wp2_with (go_at_call 10; refine (is_no _ key v _ _ _).mono ?_; rintro e w5 ⟨rfl, H5⟩)
        go_ret
        exact ⟨rfl, (hb1.trans ((HB.out.alloc HB.out.size _).mono hb1.size)).trans (H5.out.mono (by have h1 := hb1.size; have h2 := HB.out.size; simp; omega))⟩
  · have Hd : Hid _ := hd
    have HB : Hid (Below w1.heap.size w1 w3) := hb2.trans hK3.below
    have hx3 := hx.kept hK3
    clear hd hK3 hb2 hSI hSI3 hR hF hW hx
    obtain ⟨ax, cx, rfl⟩ := hx3.shape
    have HX3 : Hid (OwnBytes w3 w1.heap.size (.slice ax (dlen d) cx) d) := hx3
    clear hx3
    go_wp2_with fail
    have HB4 : Hid (Below w1.heap.size w1 (w3.alloc (.cells #[.string key, .int .u64 v, .slice ax (dlen d) cx] 31))) := HB.out.alloc HB.out.size _
    go_loop [10, 11, 12] (fun fo wa i => ∃ m : Int, -1 ≤ m ∧ m < L.length ∧ fo = .bool false ∧ wa = .slice none 0 0 ∧ i = .int .i64 m ∧ Hid (∀ (j : Nat) (x : Ob), m < j → L[j]? = some x → ¬ Hit key v x)) (fun _ _ i => (intOf i + 1).toNat)
    case atStart => exact ⟨_, by omega, by omega, rfl, rfl, rfl, fun j x hj hx => by have := (List.getElem?_eq_some_iff.1 hx).1; omega⟩
    case round =>
      obtain ⟨m, hm0, hm1, rfl, rfl, rfl, hN⟩ := hrel
      by_cases h0 : 0 ≤ m
      · obtain ⟨k, rfl⟩ := Int.eq_ofNat_of_zero_le h0
        have hlt : k < L.length := by omega
        obtain ⟨b, off, rfl, hc⟩ := hR1 (by omega)
        obtain ⟨x, hx⟩ : ∃ x, L[k]? = some x := ⟨_, List.getElem?_eq_getElem hlt⟩
        obtain ⟨c0, c1, y, c2, hv⟩ := (hc k x hx).below HB4.out
        obtain ⟨ay, cy, rfl⟩ := hv.slice
        by_cases hh : Hit key v x
        · have hdx : d = x.val := by
            have := content_last hx hh (fun j z hj hz => hN.out j z (by omega) hz)
            rw [Hd.out] at this
            exact Option.some.inj this
          subst hdx
          have hsm := (hS x (List.mem_of_getElem? hx)).2
          have H10 : Hid _ := is_yes _ key v _ _ x.val (HX3.out.bytes.below ((Below.refl w3.heap.size w3).alloc (Nat.le_refl _) (.cells #[.string key, .int .u64 v, .slice ax (dlen x.val) cx] 31))) hv hsm
          obtain ⟨hk1, hv1⟩ := hh
          have e1 : x.key.toList = key.toList := by rw [hk1]
          have e2 : (x.ver == v) = true := by simp [hv1]
          clear hx hc hv hk1 hv1 hsm hS
          go_wp2_with (go_at_call 10; refine Calls.mono H10.out ?_; rintro e w5 ⟨rfl, H5⟩)
          go_ret
          exact ⟨rfl, (hb1.trans ((HB.out.alloc HB.out.size _).mono hb1.size)).trans (H5.out.mono (by have h1 := hb1.size; have h2 := HB.out.size; simp; omega))⟩
        · have HX : Hid _ := miss_step hN.out hx hh
          have Hnh : Hid (¬ Hit key v x) := hh
          clear hx hc hv hh hS
          go_wp2
          all_goals first
            | exact absurd (hit_of ‹_› ‹_›) Hnh.out
            | (go_round
               case rel => exact ⟨(k : Int) - 1, by omega, by omega, rfl, rfl, rfl, HX⟩
               case measure => simp [intOf] <;> omega)
      · exfalso
        have := content_none (L := L) (key := key) (v := v) (fun j x hx => hN.out j x (by omega) hx)
        rw [Hd.out] at this
        cases this
end Go.Proofs.Qxb6626901a
