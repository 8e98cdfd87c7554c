/-
  Seat b6626901a: the walk of 'FnVersionSeesPutAndNothingElse' (4).
-/
import Derived.Test.Qxb6626901aLawA
namespace Go.Proofs.Qxb6626901a
open Go.RowKit
set_option linter.unusedSimpArgs false
set_option linter.unusedVariables false

/-- The parts of an answer. -/
def aKey (o : Option (Option (List Int))) (key : ByteArray) : ByteArray := match o with | none => ⟨#[]⟩ | some _ => key
def aVer (o : Option (Option (List Int))) (v : Int) : Int := match o with | none => 0 | some _ => v
def aOk (o : Option (Option (List Int))) : Bool := match o with | none => false | some _ => true
def aDat (o : Option (Option (List Int))) : Option (List Int) := match o with | none => none | some d => d

/-- What 'Version' leaves, in one form. -/
def VPost (w : World) (base sb n kb : Nat) (f : List UInt8 → Int → Option (Option (List Int))) (key : ByteArray) (v : Int) (o : Option (Option (List Int))) (e : Ending) (w' : World) : Prop :=
  ∃ a c, e = .returned (.tuple #[.agg #[.string (aKey o key), .int .u64 (aVer o v), .slice a (dlen (aDat o)) c], .bool (aOk o)]) ∧ OwnBytes w' base (.slice a (dlen (aDat o)) c) (aDat o) ∧ (∃ vs, SI w' base sb n kb vs f) ∧ Kept base w w'

theorem version_one {w : World} {base sb n kb : Nat} {vs : List UInt8 → Option (Nat × Nat)} {f : List UInt8 → Int → Option (Option (List Int))} (h : SI w base sb n kb vs f) (hbase : base ≤ w.heap.size) {key : ByteArray} (hkey : key.size ≤ maxLen) {v : Int} (hwf : (Lit.int .u64 v).wf = true)
    (o : Option (Option (List Int))) (ho : f key.data.toList v = o) :
    Calls Try.prog 9 #[.pointer (some ⟨sb, 0, none⟩), .string key, .int .u64 v] w (VPost w base sb n kb f key v o) := by
  refine (version9 h hbase hkey hwf).mono ?_
  rintro e w' ⟨hans, hSI, hK⟩
  rcases hans with ⟨hno, rfl⟩ | ⟨x, d, hd, hx, rfl⟩
  · rw [hno] at ho
    subst ho
    exact ⟨none, 0, rfl, rfl, hSI, hK⟩
  · rw [hd] at ho
    subst ho
    obtain ⟨a, c, rfl⟩ := hx.shape
    exact ⟨a, c, rfl, hx.kept hK, hSI, hK⟩

/-- What 'Version' leaves at a pair that is there. -/
def SPost (w : World) (base sb n kb : Nat) (f : List UInt8 → Int → Option (Option (List Int))) (key : ByteArray) (v : Int) (d : Option (List Int)) (e : Ending) (w' : World) : Prop :=
  ∃ a c, e = .returned (.tuple #[.agg #[.string key, .int .u64 v, .slice a (dlen d) c], .bool true]) ∧ OwnBytes w' base (.slice a (dlen d) c) d ∧ (∃ vs, SI w' base sb n kb vs f) ∧ Kept base w w'

theorem version_some {w : World} {base sb n kb : Nat} {vs : List UInt8 → Option (Nat × Nat)} {f : List UInt8 → Int → Option (Option (List Int))} (h : SI w base sb n kb vs f) (hbase : base ≤ w.heap.size) {key : ByteArray} (hkey : key.size ≤ maxLen) {v : Int} (hwf : (Lit.int .u64 v).wf = true)
    (d : Option (List Int)) (ho : f key.data.toList v = some d) :
    Calls Try.prog 9 #[.pointer (some ⟨sb, 0, none⟩), .string key, .int .u64 v] w (SPost w base sb n kb f key v d) :=
  version_one h hbase hkey hwf (some d) ho

/-- What is put stays small. -/
def SmallF (f : List UInt8 → Int → Option (Option (List Int))) : Prop := ∀ k v, dlen (aDat (f k v)) ≤ 1048576

theorem smallF_put {f : List UInt8 → Int → Option (Option (List Int))} (h : SmallF f) (k : List UInt8) (v : Int) {d : Option (List Int)} (hd : dlen d ≤ 1048576) : SmallF (putF f k v d) := by
  intro k' v'
  unfold putF
  split
  · exact hd
  · exact h k' v'

theorem smallF_fold : ∀ (L : List Ob) (f : List UInt8 → Int → Option (Option (List Int))), SmallF f → Small L → SmallF (L.foldl (fun f x => putF f x.key.data.toList x.ver x.val) f)
  | [], f, h, _ => h
  | x :: L, f, h, hS => by
    rw [List.foldl_cons]
    exact smallF_fold L _ (smallF_put h _ _ (hS x (by simp)).2) (fun y hy => hS y (by simp [hy]))

theorem smallF_content {L : List Ob} (hS : Small L) : SmallF (content L) := smallF_fold L _ (fun _ _ => Nat.zero_le _) hS

theorem cells31 {w : World} {N : Nat} {x0 x1 x2 : Value} (h : w.heap[N]? = some (Obj.cells #[x0, x1, x2] 31 (0, 0))) : w.cell? ⟨N, 0, none⟩ = some x0 ∧ w.cell? ⟨N, 1, none⟩ = some x1 ∧ w.cell? ⟨N, 2, none⟩ = some x2 := by
  refine ⟨?_, ?_, ?_⟩ <;> simp [World.cell?, h]

theorem putF_other {f : List UInt8 → Int → Option (Option (List Int))} {key k2 : ByteArray} {v v2 : Int} {d : Option (List Int)} (h : ¬ (key = k2 ∧ v = v2)) : putF f k2.data.toList v2 d key.data.toList v = f key.data.toList v := by
  unfold putF
  rw [if_neg]
  rintro ⟨h1, h2⟩
  exact h ⟨WideShapes.bytes_inj h1, h2⟩

theorem putF_same {f : List UInt8 → Int → Option (Option (List Int))} {key : ByteArray} {v : Int} {d : Option (List Int)} : putF f key.data.toList v d key.data.toList v = some d := by
  simp [putF]

set_option maxHeartbeats 4000000 in
theorem law4 (w : World) (L : List Ob) (a : Option Addr) (cap : Nat) (key : ByteArray) (v : Int) (k2 : ByteArray) (v2 : Int) (u : Value) (d2 : Option (List Int)) (hL : L.length ≤ 9223372036854775807) (hkey : key.size ≤ 9223372036854775807) (hwf : (Lit.int .u64 v).wf = true)
    (hk2 : k2.size ≤ 9223372036854775807) (hwf2 : (Lit.int .u64 v2).wf = true) (hu : Bytes w u d2) (hd2 : dlen d2 ≤ 9223372036854775807)
    (hR : Rows3 w a L) (hF : Fits L) (hW : Wf L) :
    Calls Try.prog 4 #[.slice a L.length cap, .string key, .int .u64 v, .string k2, .int .u64 v2, u] w (LawPost w) := by
  have Hwf : Hid ((Lit.int .u64 v).wf = true) := hwf
  have Hwf2 : Hid ((Lit.int .u64 v2).wf = true) := hwf2
  obtain ⟨au, cu, rfl⟩ := hu.slice
  clear hwf hwf2
  go_enter Try.func4, Try.ntmps4
  go_wp2_with fail
  refine (zzBytes11 w L a cap key v k2 v2 au _ cu hL hkey hk2 hd2 hR hF).mono ?_
  rintro e w0 ⟨r, rfl, hr, rfl⟩
  cases r
  · clear hr
    go_wp2_with fail
    go_ret
    exact ⟨rfl, Below.refl _ _⟩
  obtain ⟨hS, hks, hks2, hds⟩ := hr rfl
  clear hr
  by_cases h1 : 65536 < L.length
  · go_wp2_with fail
    go_ret
    exact ⟨rfl, Below.refl _ _⟩
  by_cases h2 : 65536 < key.size
  · go_wp2_with fail
    go_ret
    exact ⟨rfl, Below.refl _ _⟩
  by_cases h3 : 65536 < k2.size
  · go_wp2_with fail
    go_ret
    exact ⟨rfl, Below.refl _ _⟩
  by_cases h4 : 65536 < dlen d2
  · go_wp2_with fail
    go_ret
    exact ⟨rfl, Below.refl _ _⟩
  go_wp2_with fail
  refine (zzHeld6 _ L a cap hL hR hS).mono ?_
  rintro e w0 ⟨t, rfl, ht, rfl⟩
  by_cases h5 : 1048576 < t + key.size + k2.size + dlen d2
  · go_wp2_with fail
    go_ret
    exact ⟨rfl, Below.refl _ _⟩
  go_wp2_with fail
  refine (clone_held _ a cap L hR (by omega) hS).mono ?_
  rintro e w1 ⟨a', c', rfl, hR1, hb1⟩
  go_wp2_with fail
  refine (clone_shape _ _ d2 (hu.below hb1) hds).mono ?_
  rintro e w2 ⟨a2, c2, rfl, hu2, hb2⟩
  go_wp2_with fail
  refine (build8 _ a' c' L (hR1.below hb2) (by omega) hS hW).mono ?_
  rintro e w3 ⟨rfl, ⟨vs3, hSI3⟩, hb3⟩
  go_wp2_with fail
  have hkm : key.size ≤ maxLen := by unfold maxLen; omega
  have hkm2 : k2.size ≤ maxLen := by unfold maxLen; omega
  have hSF := smallF_content hS
  have Hn : Hid (2 * L.length + 1 < maxLen) := by unfold Hid maxLen; omega
  obtain ⟨o, ho⟩ : ∃ o, content L key.data.toList v = o := ⟨_, rfl⟩
  refine (version_one hSI3 hb3.size hkm Hwf.out o ho).mono ?_
  rintro e w4 ⟨ax, cx, rfl, hx4, ⟨vs4, hSI4⟩, hK4⟩
  have hod : dlen (aDat o) ≤ 1048576 := by rw [← ho]; exact hSF _ _
  have B4 : Below w2.heap.size w2 w4 := hb3.trans hK4.below
  obtain ⟨kk, hkk⟩ : ∃ kk, aKey o key = kk := ⟨_, rfl⟩
  obtain ⟨vv, hvv⟩ : ∃ vv, aVer o v = vv := ⟨_, rfl⟩
  obtain ⟨ok, hok⟩ : ∃ ok, aOk o = ok := ⟨_, rfl⟩
  obtain ⟨dd, hdd⟩ : ∃ dd, aDat o = dd := ⟨_, rfl⟩
  rw [hdd] at hx4 hod
  rw [hkk, hvv, hok, hdd]
  have HE : Hid (content L key.data.toList v = o ∧ aKey o key = kk ∧ aVer o v = vv ∧ aOk o = ok ∧ aDat o = dd) := ⟨ho, hkk, hvv, hok, hdd⟩
  clear ho hkk hvv hok hdd
  clear hSI3 hb3 hK4 hR hF hW hR1 hu
  go_wp2_with fail
  -- the first answer lies in a block of its own
  obtain ⟨w5, hw5⟩ : ∃ w5, w4.alloc (.cells #[.string kk, .int .u64 vv, .slice ax (dlen dd) cx] 31) = w5 := ⟨_, rfl⟩
  have r5 : w5.heap[w4.heap.size]? = some (Obj.cells #[.string kk, .int .u64 vv, .slice ax (dlen dd) cx] 31 (0, 0)) := by rw [← hw5]; exact heap_alloc_new w4 _
  have b45 : Below w4.heap.size w4 w5 := by rw [← hw5]; exact (Below.refl _ _).alloc (Nat.le_refl _) _
  have hbs4 : w2.heap.size ≤ w4.heap.size := B4.size
  have k45 : Kept w2.heap.size w4 w5 := Kept.of_below b45 hbs4
  have hSI5 := hSI4.below b45 hbs4
  have hx5 := hx4.kept k45
  have B5 := B4.trans k45.below
  rw [hw5]
  obtain ⟨N1, hN1⟩ : ∃ N1, w4.heap.size = N1 := ⟨_, rfl⟩
  rw [hN1] at r5 ⊢
  clear hw5 b45 k45 hSI4 hx4 B4 hbs4 hN1
  have hbs5 : w2.heap.size ≤ w5.heap.size := B5.size
  refine (clone_shape _ _ d2 (hu2.bytes.below B5) hds).mono ?_
  rintro e w6 ⟨a6, c6, rfl, hv6, b56⟩
  have k56 : Kept w2.heap.size w5 w6 := Kept.of_below b56 hbs5
  have hSI6 := hSI5.below b56 hbs5
  have hx6 := hx5.kept k56
  have r6 := k56.rows _ _ _ _ r5 (by decide) (by decide)
  have B6 := B5.trans k56.below
  have hv6' := hv6.mono hbs5
  clear hSI5 hx5 r5 B5 b56 k56 hbs5 hv6
  go_wp2_with fail
  refine (put13 hSI6 B6.size hkm2 Hwf2.out Hn.out hv6').mono ?_
  rintro e w7 ⟨rfl, ⟨vs7, hSI7⟩, k67⟩
  have hx7 := hx6.kept k67
  have r7 := k67.rows _ _ _ _ r6 (by decide) (by decide)
  have B7 := B6.trans k67.below
  clear hSI6 hx6 r6 B6 k67 hv6'
  go_wp2_with fail
  refine (version_some hSI7 B7.size hkm2 Hwf2.out d2 putF_same).mono ?_
  rintro e w8 ⟨a8, c8, rfl, hg8, ⟨vs8, hSI8⟩, k78⟩
  have hx8 := hx7.kept k78
  have r8 := k78.rows _ _ _ _ r7 (by decide) (by decide)
  have B8 := B7.trans k78.below
  clear hSI7 hx7 r7 B7 k78
  go_wp2_with fail
  -- the second answer lies in a block of its own
  obtain ⟨w9, hw9⟩ : ∃ w9, w8.alloc (.cells #[.string k2, .int .u64 v2, .slice a8 (dlen d2) c8] 31) = w9 := ⟨_, rfl⟩
  have s9 : w9.heap[w8.heap.size]? = some (Obj.cells #[.string k2, .int .u64 v2, .slice a8 (dlen d2) c8] 31 (0, 0)) := by rw [← hw9]; exact heap_alloc_new w8 _
  have b89 : Below w8.heap.size w8 w9 := by rw [← hw9]; exact (Below.refl _ _).alloc (Nat.le_refl _) _
  have k89 : Kept w2.heap.size w8 w9 := Kept.of_below b89 B8.size
  have hSI9 := hSI8.below b89 B8.size
  have hx9 := hx8.kept k89
  have hg9 := hg8.kept k89
  have r9 := k89.rows _ _ _ _ r8 (by decide) (by decide)
  have B9 := B8.trans k89.below
  rw [hw9]
  obtain ⟨N2, hN2⟩ : ∃ N2, w8.heap.size = N2 := ⟨_, rfl⟩
  rw [hN2] at s9 ⊢
  clear hw9 b89 k89 hSI8 hx8 r8 B8 hN2 hg8
  by_cases hh : key = k2 ∧ v = v2
  · obtain ⟨rfl, rfl⟩ := hh
    refine (version_some hSI9 B9.size hkm2 Hwf2.out d2 putF_same).mono ?_
    rintro e w10 ⟨a10, c10, rfl, hq10, ⟨vs10, hSI10⟩, k910⟩
    have hx10 := hx9.kept k910
    have hg10 := hg9.kept k910
    have r10 := k910.rows _ _ _ _ r9 (by decide) (by decide)
    have s10 := k910.rows _ _ _ _ s9 (by decide) (by decide)
    have B10 := B9.trans k910.below
    clear hSI9 hx9 r9 B9 k910 hg9 s9 hSI10
    obtain ⟨x0, x1, x2⟩ := cells31 r10
    obtain ⟨y0, y1, y2⟩ := cells31 s10
    have hN1 := (Array.getElem?_eq_some_iff.1 r10).1
    have hN2 := (Array.getElem?_eq_some_iff.1 s10).1
    clear r10 s10
    go_wp2_with fail
    obtain ⟨w11, hw11⟩ : ∃ w11, w10.alloc (.cells #[.string key, .int .u64 v, .slice a10 (dlen d2) c10] 31) = w11 := ⟨_, rfl⟩
    have t11 : w11.heap[w10.heap.size]? = some (Obj.cells #[.string key, .int .u64 v, .slice a10 (dlen d2) c10] 31 (0, 0)) := by rw [← hw11]; exact heap_alloc_new w10 _
    have b1011 : Below w10.heap.size w10 w11 := by rw [← hw11]; exact (Below.refl _ _).alloc (Nat.le_refl _) _
    have B11 := B10.trans (b1011.mono B10.size)
    have hx11 := hx10.bytes.below b1011
    have hg11 := hg10.bytes.below b1011
    have hq11 := hq10.bytes.below b1011
    have m0 := below_cells b1011 x0
    have m1 := below_cells b1011 x1
    have m2 := below_cells b1011 x2
    obtain ⟨n0, n1, n2⟩ := cells31 t11
    rw [hw11]
    obtain ⟨N3, hN3⟩ : ∃ N3, w10.heap.size = N3 := ⟨_, rfl⟩
    rw [hN3] at n0 n1 n2 ⊢
    clear hw11 t11 b1011 hx10 hg10 hq10 x0 x1 x2 y0 y1 y2 hN1 hN2 hN3 B10
    refine (is_yes _ _ _ _ _ d2 hg11 (hu2.bytes.below B11) hds).mono ?_
    rintro e w12 ⟨rfl, H12⟩
    have j0 := below_cells H12.out m0
    have j1 := below_cells H12.out m1
    have j2 := below_cells H12.out m2
    have i0 := below_cells H12.out n0
    have i1 := below_cells H12.out n1
    have i2 := below_cells H12.out n2
    have hx12 := hx11.below H12.out
    have hq12 := hq11.below H12.out
    have B12 := B11.trans (H12.out.mono B11.size)
    clear m0 m1 m2 n0 n1 n2 hx11 hg11 hq11 H12 B11
    go_wp2_with fail
    refine (is_yes _ _ _ _ _ d2 hq12 (hu2.bytes.below B12) hds).mono ?_
    rintro e w13 ⟨rfl, H13⟩
    go_wp2_with fail
    go_ret
    exact ⟨rfl, (hb1.trans ((hb2.mono hb1.size).trans (B12.mono (Nat.le_trans hb1.size hb2.size)))).trans (H13.out.mono (by have h1 := hb1.size; have h2 := hb2.size; have h3 := B12.size; omega))⟩
  · refine (version_one hSI9 B9.size hkm Hwf.out o ((putF_other hh).trans HE.out.1)).mono ?_
    rintro e w10 ⟨a10, c10, rfl, hq10, ⟨vs10, hSI10⟩, k910⟩
    have hx10 := hx9.kept k910
    have hg10 := hg9.kept k910
    have r10 := k910.rows _ _ _ _ r9 (by decide) (by decide)
    have s10 := k910.rows _ _ _ _ s9 (by decide) (by decide)
    have B10 := B9.trans k910.below
    rw [HE.out.2.2.2.2] at hq10
    rw [HE.out.2.1, HE.out.2.2.1, HE.out.2.2.2.1, HE.out.2.2.2.2]
    clear hSI9 hx9 r9 B9 k910 hg9 s9 hSI10
    obtain ⟨x0, x1, x2⟩ := cells31 r10
    obtain ⟨y0, y1, y2⟩ := cells31 s10
    have hN1 := (Array.getElem?_eq_some_iff.1 r10).1
    have hN2 := (Array.getElem?_eq_some_iff.1 s10).1
    clear r10 s10
    go_wp2_with fail
    obtain ⟨w11, hw11⟩ : ∃ w11, w10.alloc (.cells #[.string kk, .int .u64 vv, .slice a10 (dlen dd) c10] 31) = w11 := ⟨_, rfl⟩
    have t11 : w11.heap[w10.heap.size]? = some (Obj.cells #[.string kk, .int .u64 vv, .slice a10 (dlen dd) c10] 31 (0, 0)) := by rw [← hw11]; exact heap_alloc_new w10 _
    have b1011 : Below w10.heap.size w10 w11 := by rw [← hw11]; exact (Below.refl _ _).alloc (Nat.le_refl _) _
    have B11 := B10.trans (b1011.mono B10.size)
    have hx11 := hx10.bytes.below b1011
    have hg11 := hg10.bytes.below b1011
    have hq11 := hq10.bytes.below b1011
    have m0 := below_cells b1011 x0
    have m1 := below_cells b1011 x1
    have m2 := below_cells b1011 x2
    obtain ⟨n0, n1, n2⟩ := cells31 t11
    rw [hw11]
    obtain ⟨N3, hN3⟩ : ∃ N3, w10.heap.size = N3 := ⟨_, rfl⟩
    rw [hN3] at n0 n1 n2 ⊢
    clear hw11 t11 b1011 hx10 hg10 hq10 x0 x1 x2 y0 y1 y2 hN1 hN2 hN3 B10
    refine (is_yes _ _ _ _ _ d2 hg11 (hu2.bytes.below B11) hds).mono ?_
    rintro e w12 ⟨rfl, H12⟩
    have j0 := below_cells H12.out m0
    have j1 := below_cells H12.out m1
    have j2 := below_cells H12.out m2
    have i0 := below_cells H12.out n0
    have i1 := below_cells H12.out n1
    have i2 := below_cells H12.out n2
    have hx12 := hx11.below H12.out
    have hq12 := hq11.below H12.out
    have B12 := B11.trans (H12.out.mono B11.size)
    clear m0 m1 m2 n0 n1 n2 hx11 hg11 hq11 H12 B11
    have H14 : Hid _ := same_bytes w12 _ _ dd hq12 hx12 hod
    by_cases hk : key = k2
    · have hv : (v == v2) = false := by
        have : ¬ v = v2 := fun e => hh ⟨hk, e⟩
        simpa using this
      have hkt : key.toList = k2.toList := by rw [hk]
      clear hk hh hq12 hx12 hu2 HE
      go_wp2_with (go_at_call 14; refine Calls.mono H14.out ?_; rintro e w13 ⟨rfl, nq, rfl⟩)
      go_ret
      exact ⟨rfl, below_drewN (hb1.trans ((hb2.mono hb1.size).trans (B12.mono (Nat.le_trans hb1.size hb2.size)))) nq⟩
    · have hkt : ¬ key.toList = k2.toList := fun e => hk (WideShapes.bytes_inj (by rw [← ByteArray.toList_eq, ← ByteArray.toList_eq]; exact e))
      clear hk hh hq12 hx12 hu2 HE
      go_wp2_with (go_at_call 14; refine Calls.mono H14.out ?_; rintro e w13 ⟨rfl, nq, rfl⟩)
      go_ret
      exact ⟨rfl, below_drewN (hb1.trans ((hb2.mono hb1.size).trans (B12.mono (Nat.le_trans hb1.size hb2.size)))) nq⟩
end Go.Proofs.Qxb6626901a
