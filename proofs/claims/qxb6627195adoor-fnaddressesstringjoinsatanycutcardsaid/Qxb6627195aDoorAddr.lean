/-
  Seat b6627195aD: netip: 'AddrFrom4' (12), 'v4' (25), 'IsValid' (16), 'appendTo4' (17), 'Addr.String' (13).
-/
import Derived.Test.Qxb6627195aDoorDec
import Derived.Laws.StructEq
import Derived.Laws.BitsAllLaws
import Derived.LaidEql
namespace Go.Proofs.Qxb6627195aDoor
open Go.RowKit
set_option linter.unusedSimpArgs false
set_option linter.unusedVariables false

/-- The low half of an address in its IPv4 form. -/
def loN (q : Q4) : Nat := 281470681743360 + q.a * 16777216 + q.b * 65536 + q.c * 256 + q.d

theorem loN_eq {q : Q4} (h : q.Ok) : bits BinOp.or IntKind.u64 (bits BinOp.or IntKind.u64 (bits BinOp.or IntKind.u64 (bits BinOp.or IntKind.u64 281470681743360 ((q.a : Int) * 16777216)) ((q.b : Int) * 65536)) ((q.c : Int) * 256)) (q.d : Int) = ((loN q : Nat) : Int) := by
  obtain ⟨ha, hb, hc, hd⟩ := h
  have e0 : (281470681743360 : Int) = ((281470681743360 : Nat) : Int) := rfl
  have ea : (q.a : Int) * 16777216 = ((q.a * 16777216 : Nat) : Int) := by omega
  have eb : (q.b : Int) * 65536 = ((q.b * 65536 : Nat) : Int) := by omega
  have ec : (q.c : Int) * 256 = ((q.c * 256 : Nat) : Int) := by omega
  rw [e0, ea, eb, ec, u64_or_nat _ _ (by omega) (by omega), nat_join 32 _ _ (by omega) (by omega), u64_or_nat _ _ (by omega) (by omega), nat_join 24 _ _ (by omega) (by omega),
    u64_or_nat _ _ (by omega) (by omega), nat_join 16 _ _ (by omega) (by omega), u64_or_nat _ _ (by omega) (by omega), nat_join 8 _ _ (by omega) (by omega)]
  rfl

def addrV (q : Q4) (z : Addr) : Value := .agg #[.int .u64 0, .int .u64 ((loN q : Nat) : Int), .pointer (some z)]

/-- What the walks are told of the three package-level variables: 'z4' leads somewhere, 'z0' is nil. -/
def Laid (w : World) (z : Addr) : Prop := w.cell? ⟨0, 0, none⟩ = some (.pointer (some z)) ∧ w.cell? ⟨1, 0, none⟩ = some (.pointer none)

set_option maxHeartbeats 400000 in
theorem addrFrom4 (w : World) (q : Q4) (hq : q.Ok) (z : Addr) (hz : Laid w z) :
    Calls Tryd.prog 12 #[.agg #[.int .u8 q.a, .int .u8 q.b, .int .u8 q.c, .int .u8 q.d]] w fun e w' => e = .returned (.agg #[.int .u64 0, .int .u64 ((loN q : Nat) : Int), .pointer (some z)]) ∧ Hid (Below w.heap.size w w') := by
  have hlo := loN_eq hq
  have HL : Hid _ := hlo
  obtain ⟨ha, hb, hc, hd⟩ := hq
  obtain ⟨hz0, _⟩ := hz
  have h0 := World.block_lt_of_cell? w _ hz0
  simp only at h0
  clear hlo
  go_enter Tryd.func12, Tryd.ntmps12
  go_wp2
  refine bodyPost_ret (v := .agg #[.int .u64 0, .int .u64 ((loN q : Nat) : Int), .pointer (some z)]) (by simp [results, Tryd.results12, go_sem, HL.out]) rfl ⟨rfl, ?_⟩
  exact ((Below.refl _ _).alloc (Nat.le_refl _) _).alloc (by simp) _


theorem loN_at {q : Q4} (h : q.Ok) : ((loN q : Nat) : Int) / 16777216 % 256 = q.a ∧ ((loN q : Nat) : Int) / 65536 % 256 = q.b ∧ ((loN q : Nat) : Int) / 256 % 256 = q.c ∧ ((loN q : Nat) : Int) % 256 = q.d ∧ (loN q : Nat) < 281474976710656 := by
  obtain ⟨ha, hb, hc, hd⟩ := h
  unfold loN
  omega

set_option maxHeartbeats 400000 in
theorem v4_0 (w : World) (q : Q4) (hq : q.Ok) (z : Addr) :
    Calls Tryd.prog 25 #[.agg #[.int .u64 0, .int .u64 ((loN q : Nat) : Int), .pointer (some z)], .int .u8 0] w fun e w' => e = .returned (.int .u8 q.a) ∧ Hid (Below w.heap.size w w') := by
  obtain ⟨h0, h1, h2, h3, hlt⟩ := loN_at hq
  have H0 : Hid _ := h0
  clear h0 h1 h2 h3
  generalize loN q = l at *
  go_enter Tryd.func25, Tryd.ntmps25
  go_wp2
  go_ret
  exact ⟨by simp [H0.out], (Below.refl _ _).alloc (Nat.le_refl _) _⟩

set_option maxHeartbeats 400000 in
theorem v4_1 (w : World) (q : Q4) (hq : q.Ok) (z : Addr) :
    Calls Tryd.prog 25 #[.agg #[.int .u64 0, .int .u64 ((loN q : Nat) : Int), .pointer (some z)], .int .u8 1] w fun e w' => e = .returned (.int .u8 q.b) ∧ Hid (Below w.heap.size w w') := by
  obtain ⟨h0, h1, h2, h3, hlt⟩ := loN_at hq
  have H0 : Hid _ := h1
  clear h0 h1 h2 h3
  generalize loN q = l at *
  go_enter Tryd.func25, Tryd.ntmps25
  go_wp2
  go_ret
  exact ⟨by simp [H0.out], (Below.refl _ _).alloc (Nat.le_refl _) _⟩

set_option maxHeartbeats 400000 in
theorem v4_2 (w : World) (q : Q4) (hq : q.Ok) (z : Addr) :
    Calls Tryd.prog 25 #[.agg #[.int .u64 0, .int .u64 ((loN q : Nat) : Int), .pointer (some z)], .int .u8 2] w fun e w' => e = .returned (.int .u8 q.c) ∧ Hid (Below w.heap.size w w') := by
  obtain ⟨h0, h1, h2, h3, hlt⟩ := loN_at hq
  have H0 : Hid _ := h2
  clear h0 h1 h2 h3
  generalize loN q = l at *
  go_enter Tryd.func25, Tryd.ntmps25
  go_wp2
  go_ret
  exact ⟨by simp [H0.out], (Below.refl _ _).alloc (Nat.le_refl _) _⟩

set_option maxHeartbeats 400000 in
theorem v4_3 (w : World) (q : Q4) (hq : q.Ok) (z : Addr) :
    Calls Tryd.prog 25 #[.agg #[.int .u64 0, .int .u64 ((loN q : Nat) : Int), .pointer (some z)], .int .u8 3] w fun e w' => e = .returned (.int .u8 q.d) ∧ Hid (Below w.heap.size w w') := by
  obtain ⟨h0, h1, h2, h3, hlt⟩ := loN_at hq
  have H0 : Hid _ := h3
  clear h0 h1 h2 h3
  generalize loN q = l at *
  go_enter Tryd.func25, Tryd.ntmps25
  go_wp2
  go_ret
  exact ⟨by simp [H0.out], (Below.refl _ _).alloc (Nat.le_refl _) _⟩

theorem neq_z0 (z : Addr) (w : World) : (binOp .neq 37 (.agg #[.pointer (some z)]) (.agg #[.pointer none])).run Tryd.prog w = .ok (.bool true) w := by kernel_rfl

theorem fields37 : Tryd.prog.underlying 37 = some (.struct (Tryd.prog.fieldsOf 37)) := by kernel_rfl
theorem held37 : Tryd.prog.stoodInHeld 37 = false := by kernel_rfl

theorem equalIn35 (d : Nat) (z : Addr) (w : World) : (Op.equalIn (d + 1) 35 (Value.pointer (some z)) (Value.pointer (some z))).run Tryd.prog w = .ok true w := by
  obtain ⟨j, hj⟩ : ∃ j, Tryd.prog.info? 63 = some j := Option.isSome_iff_exists.1 (by kernel_rfl)
  simp [Op.equalIn, run_underlying Tryd.underlying35, typeInfo, sizeOf, run_sameAddr_same, hj]

theorem eql_z4 (z : Addr) (w : World) : (binOp .eql 37 (.agg #[.pointer (some z)]) (.agg #[.pointer (some z)])).run Tryd.prog w = .ok (.bool true) w := by
  simp only [binOp]
  simp [Op.equal, Op.maxDepth, run_equalIn_struct w 9999 37 _ _ fields37 held37, Program.fieldsOf, Tryd.underlying37, go_sem]
  have hp : (Op.equalIn (9998 + 1) 35 (Value.pointer (some z)) (Value.pointer (some z))).run Tryd.prog w = .ok true w := equalIn35 9998 z w
  simp only [Nat.reduceAdd] at hp
  simp [hp]

set_option maxHeartbeats 400000 in
theorem isValid (w : World) (l : Int) (z : Addr) (hz : Laid w z) :
    Calls Tryd.prog 16 #[.agg #[.int .u64 0, .int .u64 l, .pointer (some z)]] w fun e w' => e = .returned (.bool true) ∧ Hid (Below w.heap.size w w') := by
  obtain ⟨hz0, hz1⟩ := hz
  have h1 := World.block_lt_of_cell? w _ hz1
  simp only at h1
  have hn := neq_z0
  go_enter Tryd.func16, Tryd.ntmps16
  go_wp2
  go_ret
  exact ⟨rfl, (Below.refl _ _).alloc (Nat.le_refl _) _⟩


theorem Buf.grown {w w' : World} {g cap : Nat} {t : List UInt8} (h : Buf w g cap t) (hb : Below w.heap.size w w') : Buf w' g cap t := by
  have hg : w.grownBy w' none := ⟨hb.os, hb.tape, hb.output, hb.size, fun k hk _ => hb.block k hk⟩
  exact World.ownsRow.kept h hg (.inr (by simp [Value.ownBlock]))

theorem grown_of_below {w w' : World} (hb : Below w.heap.size w w') (r : Option Nat) : w.grownBy w' r := ⟨hb.os, hb.tape, hb.output, hb.size, fun k hk _ => hb.block k hk⟩

theorem appendDecimal_at (w : World) (g cap k : Nat) (t : List UInt8) (v : Nat) (hk : k = t.length) (hv : v < 256) (hb : Buf w g cap t) (hfit : k + (dec v).length ≤ cap) :
    Calls Tryd.prog 24 #[.slice (some ⟨g, 0, none⟩) k cap, .int .u8 (v : Int)] w fun e w' =>
      e = .returned (.slice (some ⟨g, 0, none⟩) (k + (dec v).length) cap) ∧ Hid (Buf w' g cap (t ++ dec v)) ∧ Hid (w.grownBy w' (some g)) := by
  subst hk
  exact appendDecimal_any w g cap t v hv hb hfit

theorem boxed {w : World} {N : Nat} {x0 x1 x2 : Value} (h : w.heap[N]? = some (Obj.cells #[x0, x1, x2] 39 (0, 0))) : w.cell? ⟨N, 0, none⟩ = some x0 ∧ w.cell? ⟨N, 1, none⟩ = some x1 ∧ w.cell? ⟨N, 2, none⟩ = some x2 := by
  refine ⟨?_, ?_, ?_⟩ <;> simp [World.cell?, h]

set_option maxHeartbeats 1000000 in
theorem appendTo4 (w : World) (q : Q4) (hq : q.Ok) (z : Addr) (g cap : Nat) (hb : Buf w g cap []) (hcap : 15 ≤ cap) :
    Calls Tryd.prog 17 #[.agg #[.int .u64 0, .int .u64 ((loN q : Nat) : Int), .pointer (some z)], .slice (some ⟨g, 0, none⟩) 0 cap] w fun e w' =>
      e = .returned (.slice (some ⟨g, 0, none⟩) (quad q).length cap) ∧ Hid (Buf w' g cap (quad q)) ∧ Hid (w.grownBy w' (some g)) := by
  have hq' := hq
  obtain ⟨ha, hbb, hc, hd⟩ := hq'
  have l0 := dec_length q.a
  have l1 := dec_length q.b
  have l2 := dec_length q.c
  have l3 := dec_length q.d
  have hquad : quad q = dec q.a ++ 46 :: (dec q.b ++ 46 :: (dec q.c ++ 46 :: dec q.d)) := by rw [quad_eq]; rfl
  have HQ : Hid (quad q = dec q.a ++ 46 :: (dec q.b ++ 46 :: (dec q.c ++ 46 :: dec q.d))) := hquad
  have HL : Hid ((quad q).length = (dec q.a).length + 1 + (dec q.b).length + 1 + (dec q.c).length + 1 + (dec q.d).length) := by
    unfold Hid; rw [hquad]; simp; omega
  clear hquad
  have hgl := hb.lt
  obtain ⟨N, hN⟩ : ∃ N, w.heap.size = N := ⟨_, rfl⟩
  go_enter Tryd.func17, Tryd.ntmps17
  go_wp2_with fail
  obtain ⟨w0, hw0⟩ : ∃ w0, w.alloc (.cells #[.int .u64 0, .int .u64 ((loN q : Nat) : Int), .pointer (some z)] 39) = w0 := ⟨_, rfl⟩
  have x0 : w0.heap[N]? = some (Obj.cells #[.int .u64 0, .int .u64 ((loN q : Nat) : Int), .pointer (some z)] 39 (0, 0)) := by rw [← hw0, ← hN]; exact heap_alloc_new w _
  have b0 : Below w.heap.size w w0 := by rw [← hw0]; exact (Below.refl _ _).alloc (Nat.le_refl _) _
  have B0 := hb.grown b0
  have G0 := grown_of_below b0 (some g)
  have hne : N ≠ g := by omega
  rw [hw0]
  clear hw0 b0 hN hb hgl
  refine (v4_0 _ q hq z).mono ?_
  rintro e w1 ⟨rfl, H⟩
  have B1 := B0.grown H.out
  have G1 := G0.trans (grown_of_below H.out (some g))
  have x1 := (H.out.block N (Array.getElem?_eq_some_iff.1 x0).1).trans x0
  clear B0 G0 H x0
  go_wp2_with fail
  refine (appendDecimal_at w1 g cap _ ([]) q.a (by simp <;> omega) ha B1 (by omega)).mono ?_
  rintro e w2 ⟨rfl, H, H'⟩
  have B2 := H.out
  have G2 := G1.trans H'.out
  have x2 := (H'.out.block N (Array.getElem?_eq_some_iff.1 x1).1 (by simpa using hne)).trans x1
  clear B1 G1 H H' x1
  go_wp2_with (at_builtin; refine wpList_append_buf _ rfl (.tmp 9) (.tmp 10) rfl g _ cap ([] ++ dec q.a) _ 46 rfl (by simp <;> omega) rfl B2 rfl (by omega) ?_; intro w3 B3 G'; obtain ⟨c0, c1, c2⟩ := boxed ((G'.block N (Array.getElem?_eq_some_iff.1 x2).1 (by simpa using hne)).trans x2))
  have G3 := G2.trans G'
  have x3 := (G'.block N (Array.getElem?_eq_some_iff.1 x2).1 (by simpa using hne)).trans x2
  clear B2 G2 G' x2 c0 c1 c2
  refine (v4_1 _ q hq z).mono ?_
  rintro e w4 ⟨rfl, H⟩
  have B4 := B3.grown H.out
  have G4 := G3.trans (grown_of_below H.out (some g))
  have x4 := (H.out.block N (Array.getElem?_eq_some_iff.1 x3).1).trans x3
  clear B3 G3 H x3
  go_wp2_with fail
  refine (appendDecimal_at w4 g cap _ ([] ++ dec q.a ++ [46]) q.b (by simp <;> omega) hbb B4 (by omega)).mono ?_
  rintro e w5 ⟨rfl, H, H'⟩
  have B5 := H.out
  have G5 := G4.trans H'.out
  have x5 := (H'.out.block N (Array.getElem?_eq_some_iff.1 x4).1 (by simpa using hne)).trans x4
  clear B4 G4 H H' x4
  go_wp2_with (at_builtin; refine wpList_append_buf _ rfl (.tmp 16) (.tmp 17) rfl g _ cap ([] ++ dec q.a ++ [46] ++ dec q.b) _ 46 rfl (by simp <;> omega) rfl B5 rfl (by omega) ?_; intro w6 B6 G'; obtain ⟨c0, c1, c2⟩ := boxed ((G'.block N (Array.getElem?_eq_some_iff.1 x5).1 (by simpa using hne)).trans x5))
  have G6 := G5.trans G'
  have x6 := (G'.block N (Array.getElem?_eq_some_iff.1 x5).1 (by simpa using hne)).trans x5
  clear B5 G5 G' x5 c0 c1 c2
  refine (v4_2 _ q hq z).mono ?_
  rintro e w7 ⟨rfl, H⟩
  have B7 := B6.grown H.out
  have G7 := G6.trans (grown_of_below H.out (some g))
  have x7 := (H.out.block N (Array.getElem?_eq_some_iff.1 x6).1).trans x6
  clear B6 G6 H x6
  go_wp2_with fail
  refine (appendDecimal_at w7 g cap _ ([] ++ dec q.a ++ [46] ++ dec q.b ++ [46]) q.c (by simp <;> omega) hc B7 (by omega)).mono ?_
  rintro e w8 ⟨rfl, H, H'⟩
  have B8 := H.out
  have G8 := G7.trans H'.out
  have x8 := (H'.out.block N (Array.getElem?_eq_some_iff.1 x7).1 (by simpa using hne)).trans x7
  clear B7 G7 H H' x7
  go_wp2_with (at_builtin; refine wpList_append_buf _ rfl (.tmp 23) (.tmp 24) rfl g _ cap ([] ++ dec q.a ++ [46] ++ dec q.b ++ [46] ++ dec q.c) _ 46 rfl (by simp <;> omega) rfl B8 rfl (by omega) ?_; intro w9 B9 G'; obtain ⟨c0, c1, c2⟩ := boxed ((G'.block N (Array.getElem?_eq_some_iff.1 x8).1 (by simpa using hne)).trans x8))
  have G9 := G8.trans G'
  have x9 := (G'.block N (Array.getElem?_eq_some_iff.1 x8).1 (by simpa using hne)).trans x8
  clear B8 G8 G' x8 c0 c1 c2
  refine (v4_3 _ q hq z).mono ?_
  rintro e w10 ⟨rfl, H⟩
  have B10 := B9.grown H.out
  have G10 := G9.trans (grown_of_below H.out (some g))
  have x10 := (H.out.block N (Array.getElem?_eq_some_iff.1 x9).1).trans x9
  clear B9 G9 H x9
  go_wp2_with fail
  refine (appendDecimal_at w10 g cap _ ([] ++ dec q.a ++ [46] ++ dec q.b ++ [46] ++ dec q.c ++ [46]) q.d (by simp <;> omega) hd B10 (by omega)).mono ?_
  rintro e w11 ⟨rfl, H, H'⟩
  have B11 := H.out
  have G11 := G10.trans H'.out
  have x11 := (H'.out.block N (Array.getElem?_eq_some_iff.1 x10).1 (by simpa using hne)).trans x10
  clear B10 G10 H H' x10
  go_wp2_with fail
  go_ret
  have e1 : [] ++ dec q.a ++ [46] ++ dec q.b ++ [46] ++ dec q.c ++ [46] ++ dec q.d = quad q := by rw [HQ.out]; simp
  have B : Buf w11 g cap (quad q) := by rw [← e1]; exact B11
  exact ⟨by rw [HL.out]; simp <;> omega, B, G11⟩

end Go.Proofs.Qxb6627195aDoor
