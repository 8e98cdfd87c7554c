/-
  Seat b6626901a: 'zzPut' (13).
-/
import Derived.Test.Qxb6626901aShim
namespace Go.Proofs.Qxb6626901a
open Go.RowKit
set_option linter.unusedSimpArgs false
set_option linter.unusedVariables false

section
variable {w : World} {base sb n kb : Nat} {vs : List UInt8 → Option (Nat × Nat)} {f : List UInt8 → Int → Option (Option (List Int))}

/-- What 'zzPut' leaves. -/
def PutPost (w : World) (base sb n kb : Nat) (f : List UInt8 → Int → Option (Option (List Int))) (e : Ending) (w' : World) : Prop :=
  e = .returned (.tuple #[]) ∧ (∃ vs', SI w' base sb n kb vs' f) ∧ Kept base w w'

theorem walk18_some (h : SI w base sb n kb vs f) {key : ByteArray} (hkey : key.size ≤ maxLen) {p m : Nat} (hv : vs key.data.toList = some (p, m)) :
    Calls Try.prog 18 #[.pointer (some ⟨sb, 0, none⟩), .string key] w fun e w' => e = .returned (.pointer (some ⟨p, 0, none⟩)) ∧ w = w' := by
  refine (walk18 h hkey).mono ?_
  rintro e w' ⟨rfl, rfl⟩
  rw [hv]
  exact ⟨rfl, rfl⟩
theorem walk18_none (h : SI w base sb n kb vs f) {key : ByteArray} (hkey : key.size ≤ maxLen) (hv : vs key.data.toList = none) :
    Calls Try.prog 18 #[.pointer (some ⟨sb, 0, none⟩), .string key] w fun e w' => e = .returned (.pointer none) ∧ w = w' := by
  refine (walk18 h hkey).mono ?_
  rintro e w' ⟨rfl, rfl⟩
  rw [hv]
  exact ⟨rfl, rfl⟩

set_option maxHeartbeats 1000000 in
theorem put_old (h : SI w base sb n kb vs f) (hbase : base ≤ w.heap.size) {key : ByteArray} (hkey : key.size ≤ maxLen) {v : Int} (hwf : (Lit.int .u64 v).wf = true) (hn : n < maxLen) {x : Value} {d : Option (List Int)} (hx : OwnBytes w base x d)
    {p m : Nat} (hv : vs key.data.toList = some (p, m)) :
    Calls Try.prog 13 #[.pointer (some ⟨sb, 0, none⟩), .string key, .int .u64 v, x] w (PutPost w base sb (n + 1) kb (putF f key.data.toList v d)) := by
  obtain ⟨ax, cx, rfl⟩ := hx.shape
  have Hv : Hid (vs key.data.toList = some (p, m)) := hv
  have Hwf : Hid ((Lit.int .u64 v).wf = true) := hwf
  clear hv hwf
  obtain ⟨F, hF⟩ : ∃ F, putF f key.data.toList v d = F := ⟨_, rfl⟩
  have HF : Hid _ := hF
  rw [hF]
  clear hF
  go_enter Try.func13, Try.ntmps13
  go_wp2_with fail
  refine (walk18_some h hkey Hv.out).mono ?_
  rintro e w1 ⟨rfl, rfl⟩
  go_wp2_with fail
  refine (walk20 h hbase Hv.out Hwf.out).mono ?_
  rintro e w1 ⟨rfl, H1⟩
  have h1 := h.below H1.out hbase
  have K1 := Kept.of_below H1.out hbase
  have hx1 := hx.kept K1
  have hb1 : base ≤ w1.heap.size := Nat.le_trans hbase H1.out.size
  generalize (f key.data.toList v).isSome = has
  clear h hx hbase
  cases has
  · go_wp2_with fail
    refine (walk22 h1).mono ?_
    rintro e w2 ⟨⟨cnt, rfl⟩, hw⟩
    subst hw
    go_wp2_with fail
    refine (walk21 h1 _).mono ?_
    rintro e w2 ⟨rfl, H2⟩
    have h2 := H2.out.1
    have K2 := K1.trans H2.out.2
    have hx2 := hx1.kept H2.out.2
    go_wp2_with fail
    refine (walk23 h2 Hv.out).mono ?_
    rintro e w9 ⟨⟨hi, rfl⟩, hw⟩
    subst hw
    by_cases hgt : hi < v
    · go_wp2_with fail
      refine (walk24 h2 Hv.out _).mono ?_
      rintro e w3 ⟨rfl, H3⟩
      have K3 := K2.trans H3.out.2
      have hx3 := hx2.kept H3.out.2
      go_wp2_with fail
      refine (walk25 H3.out.1 Hv.out Hwf.out hn hx3).mono ?_
      rintro e w4 ⟨rfl, H4⟩
      go_wp2_with fail
      go_end0
      exact ⟨rfl, ⟨_, by rw [← HF.out]; exact H4.out.1⟩, K3.trans H4.out.2⟩
    · go_wp2_with fail
      refine (walk25 h2 Hv.out Hwf.out hn hx2).mono ?_
      rintro e w4 ⟨rfl, H4⟩
      go_wp2_with fail
      go_end0
      exact ⟨rfl, ⟨_, by rw [← HF.out]; exact H4.out.1⟩, K2.trans H4.out.2⟩
  · go_wp2_with fail
    refine (walk23 h1 Hv.out).mono ?_
    rintro e w9 ⟨⟨hi, rfl⟩, hw⟩
    subst hw
    by_cases hgt : hi < v
    · go_wp2_with fail
      refine (walk24 h1 Hv.out _).mono ?_
      rintro e w3 ⟨rfl, H3⟩
      have K3 := K1.trans H3.out.2
      have hx3 := hx1.kept H3.out.2
      go_wp2_with fail
      refine (walk25 H3.out.1 Hv.out Hwf.out hn hx3).mono ?_
      rintro e w4 ⟨rfl, H4⟩
      go_wp2_with fail
      go_end0
      exact ⟨rfl, ⟨_, by rw [← HF.out]; exact H4.out.1⟩, K3.trans H4.out.2⟩
    · go_wp2_with fail
      refine (walk25 h1 Hv.out Hwf.out hn hx1).mono ?_
      rintro e w4 ⟨rfl, H4⟩
      go_wp2_with fail
      go_end0
      exact ⟨rfl, ⟨_, by rw [← HF.out]; exact H4.out.1⟩, K1.trans H4.out.2⟩

set_option maxHeartbeats 1000000 in
theorem put_new (h : SI w base sb n kb vs f) (hbase : base ≤ w.heap.size) {key : ByteArray} (hkey : key.size ≤ maxLen) {v : Int} (hwf : (Lit.int .u64 v).wf = true) (hn : n + 1 < maxLen) {x : Value} {d : Option (List Int)} (hx : OwnBytes w base x d)
    (hv : vs key.data.toList = none) :
    Calls Try.prog 13 #[.pointer (some ⟨sb, 0, none⟩), .string key, .int .u64 v, x] w (PutPost w base sb (n + 2) kb (putF f key.data.toList v d)) := by
  obtain ⟨ax, cx, rfl⟩ := hx.shape
  have Hv : Hid (vs key.data.toList = none) := hv
  have Hwf : Hid ((Lit.int .u64 v).wf = true) := hwf
  clear hv hwf
  obtain ⟨F, hF⟩ : ∃ F, putF f key.data.toList v d = F := ⟨_, rfl⟩
  have HF : Hid _ := hF
  rw [hF]
  clear hF
  go_enter Try.func13, Try.ntmps13
  go_wp2_with fail
  refine (walk18_none h hkey Hv.out).mono ?_
  rintro e w1 ⟨rfl, rfl⟩
  go_wp2_with fail
  refine (walk19 h hbase hkey (Nat.lt_of_succ_lt hn) Hv.out).mono ?_
  rintro e w0 ⟨rfl, H0⟩
  obtain ⟨h0, K0⟩ := H0.out
  obtain ⟨vs', hvs'⟩ : ∃ vs', addVs vs key.data.toList (w.heap.size + 1) w.heap.size = vs' := ⟨_, rfl⟩
  have Hv' : Hid (vs' key.data.toList = some (w.heap.size + 1, w.heap.size)) := by rw [← hvs']; simp [Hid, addVs]
  rw [hvs'] at h0
  have hx0 := hx.kept K0
  have hb0 : base ≤ w0.heap.size := Nat.le_trans hbase K0.below.size
  clear h hvs' H0 hx
  go_wp2_with fail
  refine (walk20 h0 hb0 Hv'.out Hwf.out).mono ?_
  rintro e w1 ⟨rfl, H1⟩
  have h1 := h0.below H1.out hb0
  have K1 := K0.trans (Kept.of_below H1.out hb0)
  have hx1 := hx0.kept (Kept.of_below H1.out hb0)
  generalize (f key.data.toList v).isSome = has
  clear h0 hx0
  cases has
  · go_wp2_with fail
    refine (walk22 h1).mono ?_
    rintro e w2 ⟨⟨cnt, rfl⟩, hw⟩
    subst hw
    go_wp2_with fail
    refine (walk21 h1 _).mono ?_
    rintro e w2 ⟨rfl, H2⟩
    have h2 := H2.out.1
    have K2 := K1.trans H2.out.2
    have hx2 := hx1.kept H2.out.2
    go_wp2_with fail
    refine (walk23 h2 Hv'.out).mono ?_
    rintro e w9 ⟨⟨hi, rfl⟩, hw⟩
    subst hw
    by_cases hgt : hi < v
    · go_wp2_with fail
      refine (walk24 h2 Hv'.out _).mono ?_
      rintro e w3 ⟨rfl, H3⟩
      have K3 := K2.trans H3.out.2
      have hx3 := hx2.kept H3.out.2
      go_wp2_with fail
      refine (walk25 H3.out.1 Hv'.out Hwf.out hn hx3).mono ?_
      rintro e w4 ⟨rfl, H4⟩
      go_wp2_with fail
      go_end0
      exact ⟨rfl, ⟨_, by rw [← HF.out]; exact H4.out.1⟩, K3.trans H4.out.2⟩
    · go_wp2_with fail
      refine (walk25 h2 Hv'.out Hwf.out hn hx2).mono ?_
      rintro e w4 ⟨rfl, H4⟩
      go_wp2_with fail
      go_end0
      exact ⟨rfl, ⟨_, by rw [← HF.out]; exact H4.out.1⟩, K2.trans H4.out.2⟩
  · go_wp2_with fail
    refine (walk23 h1 Hv'.out).mono ?_
    rintro e w9 ⟨⟨hi, rfl⟩, hw⟩
    subst hw
    by_cases hgt : hi < v
    · go_wp2_with fail
      refine (walk24 h1 Hv'.out _).mono ?_
      rintro e w3 ⟨rfl, H3⟩
      have K3 := K1.trans H3.out.2
      have hx3 := hx1.kept H3.out.2
      go_wp2_with fail
      refine (walk25 H3.out.1 Hv'.out Hwf.out hn hx3).mono ?_
      rintro e w4 ⟨rfl, H4⟩
      go_wp2_with fail
      go_end0
      exact ⟨rfl, ⟨_, by rw [← HF.out]; exact H4.out.1⟩, K3.trans H4.out.2⟩
    · go_wp2_with fail
      refine (walk25 h1 Hv'.out Hwf.out hn hx1).mono ?_
      rintro e w4 ⟨rfl, H4⟩
      go_wp2_with fail
      go_end0
      exact ⟨rfl, ⟨_, by rw [← HF.out]; exact H4.out.1⟩, K1.trans H4.out.2⟩

theorem SI.mono (h : SI w base sb n kb vs f) {n' : Nat} (hn : n ≤ n') : SI w base sb n' kb vs f :=
  ⟨h.row, h.hsb, h.hkb, h.keys.mono hn, fun k p m hv => by obtain ⟨h1, h2, h3, h4, h5⟩ := h.recs k p m hv; exact ⟨h1, h2, h3, h4, h5.mono hn⟩, h.no, h.inj⟩

/-- 'zzPut': the content turns at one pair; nothing else that matters. -/
theorem put13 (h : SI w base sb n kb vs f) (hbase : base ≤ w.heap.size) {key : ByteArray} (hkey : key.size ≤ maxLen) {v : Int} (hwf : (Lit.int .u64 v).wf = true) (hn : n + 1 < maxLen) {x : Value} {d : Option (List Int)} (hx : OwnBytes w base x d) :
    Calls Try.prog 13 #[.pointer (some ⟨sb, 0, none⟩), .string key, .int .u64 v, x] w (PutPost w base sb (n + 2) kb (putF f key.data.toList v d)) := by
  cases hv : vs key.data.toList with
  | none => exact put_new h hbase hkey hwf hn hx hv
  | some q =>
    obtain ⟨p, m⟩ := q
    refine (put_old h hbase hkey hwf (Nat.lt_of_succ_lt hn) hx hv).mono ?_
    rintro e w' ⟨rfl, ⟨vs', h'⟩, hK⟩
    exact ⟨rfl, ⟨vs', h'.mono (Nat.le_succ _)⟩, hK⟩
end
end Go.Proofs.Qxb6626901a
