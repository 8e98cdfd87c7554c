/-
  Seat b6626901a: '(*Store).Version' (9).
-/
import Derived.Test.Qxb6626901aBuild
import Derived.Test.Qxb6626901aLocks
import Derived.Defers
namespace Go.Proofs.Qxb6626901a
open Go.RowKit
open Go.RwLone
set_option linter.unusedSimpArgs false
set_option linter.unusedVariables false

section
variable {w w1 : World} {base sb n kb : Nat} {vs : List UInt8 → Option (Nat × Nat)} {f : List UInt8 → Int → Option (Option (List Int))}

/-- A world in which the store's own row alone may have turned, and new blocks. -/
def OnlyRow (sb : Nat) (w w1 : World) : Prop := ∀ b, b < w.heap.size → b ≠ sb → w1.heap[b]? = w.heap[b]?

theorem SI.look_key_at (h : SI w base sb n kb vs f) (hb : OnlyRow sb w w1) {key : ByteArray} (hkey : key.size ≤ maxLen) :
    (Instr.lookup 53 (.map (some kb)) (.string key) false).run Try.prog w1 = .ok (.pointer (recPtr (vs key.data.toList))) w1 := by
  rw [(h.keys.of_block (hb _ h.keys.lt h.kb_ne_sb)).look law9 Try.underlying53 (zero61 w1) (WideMaps.keyOf_string_mk Try.underlying9 hkey)]
  simp only [keysFn, recPtr]
  cases vs key.data.toList <;> rfl

theorem SI.rec_at (h : SI w base sb n kb vs f) (hb : OnlyRow sb w w1) {k : List UInt8} {p m : Nat} (hv : vs k = some (p, m)) : w1.heap[p]? = w.heap[p]? ∧ w1.heap[m]? = w.heap[m]? := by
  obtain ⟨h1, h2, h3, ⟨hh, h4⟩, ⟨g, hM, _⟩⟩ := h.recs k p m hv
  obtain ⟨c, cnt, hsb, _⟩ := h.row
  obtain ⟨es, clock, hm⟩ := hM.isMap
  refine ⟨hb p (h.lt_p hv).1 (fun e => ?_), hb m (h.lt_p hv).2 (fun e => ?_)⟩
  · rw [e, hsb] at h4; simp at h4
  · rw [e, hsb] at hm; simp at hm

theorem SI.look_ver_at (h : SI w base sb n kb vs f) (hb : OnlyRow sb w w1) {k : List UInt8} {p m : Nat} (hv : vs k = some (p, m)) {v : Int} (hwf : (Lit.int .u64 v).wf = true) :
    (f k v = none ∧ (Instr.lookup 65 (.map (some m)) (.int .u64 v) true).run Try.prog w1 = .ok (.tuple #[.agg #[.slice none 0 0, .int .u64 0], .bool false]) w1) ∨
    ∃ x d, f k v = some d ∧ OwnBytes w base x d ∧ (Instr.lookup 65 (.map (some m)) (.int .u64 v) true).run Try.prog w1 = .ok (.tuple #[.agg #[x, .int .u64 0], .bool true]) w1 := by
  obtain ⟨_, _, _, _, ⟨g, hM, hg⟩⟩ := h.recs k p m hv
  have hl := (hM.of_block (h.rec_at hb hv).2).look_ok law23 Try.underlying65 (zero63 w1) (Maps.keyOf_int_mk Try.underlying23 hwf)
  rcases hg v with ⟨h1, h2⟩ | ⟨x, d, h1, h2, h3⟩
  · left
    simp only [verFn, h1] at hl
    exact ⟨h2, hl⟩
  · right
    simp only [verFn, h1] at hl
    exact ⟨x, d, h2, h3, hl⟩

theorem SI.rec_map_at (h : SI w base sb n kb vs f) (hb : OnlyRow sb w w1) {k : List UInt8} {p m : Nat} (hv : vs k = some (p, m)) : w1.cell? ⟨p, 2, none⟩ = some (.map (some m)) := by
  rw [World.cell?_of_block (w := w) (a := ⟨p, 2, none⟩) (h.rec_at hb hv).1]
  exact (h.rec_map hv).1

theorem rlock_at (w : World) (sb : Nat) (c0 : w.cell? ⟨sb, 0, none⟩ = some (.int .i32 0)) (c3 : w.cell? ⟨sb, 3, none⟩ = some (.int .u32 0)) (c4 : w.cell? ⟨sb, 4, none⟩ = some (.int .i32 0)) (z4 : w.frozen? ⟨sb, 4, none⟩ = false) :
    Calls Try.prog 16 #[.pointer (some ⟨sb, 0, none⟩)] w fun e w' => e = .returned (.tuple #[]) ∧ w' = w.setCell ⟨sb, 4, none⟩ (.int .i32 1) := by
  have h := rlock_open rwRLib sb 0 0 _ _ w c0 (by simpa using c3) (by simpa using c4) (by simpa using z4) (by unfold wrap32; decide)
  refine h.mono ?_
  rintro e w' ⟨rfl, rfl⟩
  exact ⟨rfl, by simp [wrap32]⟩

theorem runlock_at (u : FrameMode) (w : World) (sb : Nat) (c0 : w.cell? ⟨sb, 0, none⟩ = some (.int .i32 0)) (c2 : w.cell? ⟨sb, 2, none⟩ = some (.int .u32 0)) (c4 : w.cell? ⟨sb, 4, none⟩ = some (.int .i32 1)) (z4 : w.frozen? ⟨sb, 4, none⟩ = false) :
    CallsD Try.prog 17 #[.pointer (some ⟨sb, 0, none⟩)] u w fun e u' w' => u' = u ∧ (e = .returned (.tuple #[]) ∧ w' = w.setCell ⟨sb, 4, none⟩ (.int .i32 0)) := by
  have h := runlock_deferred rwRLib sb 0 1 _ _ u w c0 (by simpa using c2) (by simpa using c4) (by simpa using z4) (by unfold wrap32; decide)
  refine h.mono ?_
  rintro e u' w' ⟨rfl, rfl, rfl⟩
  exact ⟨rfl, rfl, by simp [wrap32]⟩

/-- The world of 'Version' behind RLock. -/
def locked (w : World) (sb : Nat) : World := (w.alloc (.cells #[.string ⟨#[]⟩, .int .u64 0, .slice none 0 0] 31)).setCell ⟨sb, 4, none⟩ (.int .i32 1)

/-- What is known of the world behind RLock. -/
structure Lk (w w1 : World) (sb kb : Nat) : Prop where
  only : OnlyRow sb w w1
  d0 : w1.cell? ⟨sb, 0, none⟩ = some (.int .i32 0)
  d2 : w1.cell? ⟨sb, 2, none⟩ = some (.int .u32 0)
  d4 : w1.cell? ⟨sb, 4, none⟩ = some (.int .i32 1)
  d6 : w1.cell? ⟨sb, 6, none⟩ = some (.map (some kb))
  z4 : w1.frozen? ⟨sb, 4, none⟩ = false
  r0 : w1.cell? ⟨w.heap.size, 0, none⟩ = some (.string ⟨#[]⟩)
  r1 : w1.cell? ⟨w.heap.size, 1, none⟩ = some (.int .u64 0)
  r2 : w1.cell? ⟨w.heap.size, 2, none⟩ = some (.slice none 0 0)
  q0 : w1.frozen? ⟨w.heap.size, 0, none⟩ = false
  q1 : w1.frozen? ⟨w.heap.size, 1, none⟩ = false
  q2 : w1.frozen? ⟨w.heap.size, 2, none⟩ = false
  size : w1.heap.size = w.heap.size + 1
  grown : w.grownBy w1 (some sb)
  row : StoreRow w1 sb kb 1

theorem locked_row (h : StoreRow w sb kb 0) (o : Obj) : ∃ c cnt, (w.alloc o).heap[sb]? = some (.cells c 60 (0, 0)) ∧ c[0]? = some (.int .i32 0) ∧ c[2]? = some (.int .u32 0) ∧ c[3]? = some (.int .u32 0) ∧ c[4]? = some (.int .i32 0) ∧ c[6]? = some (.map (some kb)) ∧ c[7]? = some (.int .i64 cnt) := by
  obtain ⟨c, cnt, hb, r⟩ := h
  exact ⟨c, cnt, (Below.heap_alloc w o sb (Array.getElem?_eq_some_iff.1 hb).1).trans hb, r⟩

theorem locked_facts (h : StoreRow w sb kb 0) : Lk w (locked w sb) sb kb := by
  have hlt := h.lt
  obtain ⟨c, cnt, hb, h0, h2, h3, h4, h6, h7⟩ := locked_row h (.cells #[.string ⟨#[]⟩, .int .u64 0, .slice none 0 0] 31)
  have hrow := row_setCell hb 4 (.int .i32 1)
  have hl : 4 < c.size := (Array.getElem?_eq_some_iff.1 h4).1
  have hN : (locked w sb).heap[w.heap.size]? = some (.cells #[.string ⟨#[]⟩, .int .u64 0, .slice none 0 0] 31 (0, 0)) := by
    unfold locked
    rw [Below.heap_setCell _ _ _ _ (by simp <;> omega)]
    exact heap_alloc_new w _
  refine ⟨fun b hb' hne => ?_, ?_, ?_, ?_, ?_, ?_, ?_, ?_, ?_, ?_, ?_, ?_, ?_, ?_, ?_⟩
  · unfold locked
    rw [Below.heap_setCell _ _ _ _ hne, Below.heap_alloc _ _ _ hb']
  · simp [locked, World.cell?, hrow, h0]
  · simp [locked, World.cell?, hrow, h2]
  · simp [locked, World.cell?, hrow, hl]
  · simp [locked, World.cell?, hrow, h6]
  · simp [locked, World.frozen?, hrow]
  · simp [World.cell?, hN]
  · simp [World.cell?, hN]
  · simp [World.cell?, hN]
  · simp [World.frozen?, hN]
  · simp [World.frozen?, hN]
  · simp [World.frozen?, hN]
  · simp [locked, World.setCell]
  · exact ⟨rfl, rfl, rfl, by simp [locked, World.setCell], fun k hk hne => by
      unfold locked
      rw [Below.heap_setCell _ _ _ _ (fun e => hne (by rw [e])), Below.heap_alloc _ _ _ hk]⟩
  · exact ⟨_, cnt, hrow, by simpa [Array.getElem?_setIfInBounds] using h0, by simpa [Array.getElem?_setIfInBounds] using h2, by simpa [Array.getElem?_setIfInBounds] using h3, by simp [Array.getElem?_setIfInBounds, hl], by simpa [Array.getElem?_setIfInBounds] using h6, by simpa [Array.getElem?_setIfInBounds] using h7⟩

/-- Behind RUnlock the store is as it was. -/
theorem unlock_si {w2 : World} (h : SI w base sb n kb vs f) (hbase : base ≤ w.heap.size) (hl : Lk w w1 sb kb) (hb : Below w.heap.size w1 w2) :
    SI (w2.setCell ⟨sb, 4, none⟩ (.int .i32 0)) base sb n kb vs f ∧ Kept base w (w2.setCell ⟨sb, 4, none⟩ (.int .i32 0)) := by
  have hlt := h.row.lt
  have hblk : ∀ b, b < w.heap.size → b ≠ sb → (w2.setCell ⟨sb, 4, none⟩ (.int .i32 0)).heap[b]? = w.heap[b]? := fun b hb' hne => by
    rw [Below.heap_setCell _ _ _ _ hne, hb.block b hb', hl.only b hb' hne]
  obtain ⟨c, cnt, hc, h0, h2, h3, h4, h6, h7⟩ := hl.row
  have hrow := row_setCell ((hb.block sb hlt).trans hc) 4 (.int .i32 0)
  have hl4 : 4 < c.size := (Array.getElem?_eq_some_iff.1 h4).1
  have hR : StoreRow (w2.setCell ⟨sb, 4, none⟩ (.int .i32 0)) sb kb 0 :=
    ⟨_, cnt, hrow, by simpa [Array.getElem?_setIfInBounds] using h0, by simpa [Array.getElem?_setIfInBounds] using h2, by simpa [Array.getElem?_setIfInBounds] using h3, by simp [Array.getElem?_setIfInBounds, hl4], by simpa [Array.getElem?_setIfInBounds] using h6, by simpa [Array.getElem?_setIfInBounds] using h7⟩
  have hK : Kept base w (w2.setCell ⟨sb, 4, none⟩ (.int .i32 0)) := by
    refine ⟨⟨hb.os.trans hl.grown.os, hb.tape.trans hl.grown.tape, hb.output.trans hl.grown.output, ?_, fun k hk => hblk k (by omega) (by have := h.hsb; omega)⟩, fun b c' t fr hc' h60 h67 => ?_⟩
    · have h1 := hl.grown.size
      have h2 := hb.size
      simp only [World.setCell, Array.size_modify]
      omega
    · have hbl := (Array.getElem?_eq_some_iff.1 hc').1
      rw [hblk b hbl (fun e => ?_)]
      · exact hc'
      · obtain ⟨c'', cnt'', hc'', _⟩ := h.row
        rw [e, hc''] at hc'
        simp only [Option.some.injEq, Obj.cells.injEq] at hc'
        exact h60 hc'.2.1.symm
  exact ⟨h.turn_row hK hblk hR, hK⟩

/-- What 'Version' leaves. -/
def VersionPost (w : World) (base sb n kb : Nat) (f : List UInt8 → Int → Option (Option (List Int))) (key : ByteArray) (v : Int) (e : Ending) (w' : World) : Prop :=
  ((f key.data.toList v = none ∧ e = .returned (.tuple #[.agg #[.string ⟨#[]⟩, .int .u64 0, .slice none 0 0], .bool false])) ∨
    ∃ x d, f key.data.toList v = some d ∧ OwnBytes w base x d ∧ e = .returned (.tuple #[.agg #[.string key, .int .u64 v, x], .bool true])) ∧
  (∃ vs, SI w' base sb n kb vs f) ∧ Kept base w w'

/-- RLock behind the result's own cells. -/
theorem rlock_lk (h : StoreRow w sb kb 0) : Calls Try.prog 16 #[.pointer (some ⟨sb, 0, none⟩)] (w.alloc (.cells #[.string ⟨#[]⟩, .int .u64 0, .slice none 0 0] 31)) fun e w' => e = .returned (.tuple #[]) ∧ w' = locked w sb := by
  obtain ⟨c, cnt, hb, h0, h2, h3, h4, h6, h7⟩ := locked_row h (.cells #[.string ⟨#[]⟩, .int .u64 0, .slice none 0 0] 31)
  exact rlock_at _ sb (by simp [World.cell?, hb, h0]) (by simp [World.cell?, hb, h3]) (by simp [World.cell?, hb, h4]) (by simp [World.frozen?, hb])

theorem res_below (w1 : World) (N : Nat) (x0 x1 x2 : Value) : Below N w1 (((w1.setCell ⟨N, 0, none⟩ x0).setCell ⟨N, 1, none⟩ x1).setCell ⟨N, 2, none⟩ x2) :=
  (((Below.refl N w1).setCell (p := ⟨N, 0, none⟩) (Nat.le_refl N) x0).setCell (p := ⟨N, 1, none⟩) (Nat.le_refl N) x1).setCell (p := ⟨N, 2, none⟩) (Nat.le_refl N) x2
theorem res_cell {w1 : World} {N sb i : Nat} {v : Value} (hne : ¬ sb = N) (x0 x1 x2 : Value) (h : w1.cell? ⟨sb, i, none⟩ = some v) : (((w1.setCell ⟨N, 0, none⟩ x0).setCell ⟨N, 1, none⟩ x1).setCell ⟨N, 2, none⟩ x2).cell? ⟨sb, i, none⟩ = some v := by
  rw [World.cell?_setCell_other _ ⟨N, 2, none⟩ ⟨sb, i, none⟩ _ (by simp <;> omega), World.cell?_setCell_other _ ⟨N, 1, none⟩ ⟨sb, i, none⟩ _ (by simp <;> omega), World.cell?_setCell_other _ ⟨N, 0, none⟩ ⟨sb, i, none⟩ _ (by simp <;> omega)]
  exact h
theorem res_frozen {w1 : World} {N sb i : Nat} (x0 x1 x2 : Value) (h : w1.frozen? ⟨sb, i, none⟩ = false) : (((w1.setCell ⟨N, 0, none⟩ x0).setCell ⟨N, 1, none⟩ x1).setCell ⟨N, 2, none⟩ x2).frozen? ⟨sb, i, none⟩ = false := by
  simp [h]
theorem res_read {w1 : World} {N sb : Nat} (hne : ¬ sb = N) {y0 y1 y2 : Value} (x0 x1 x2 u : Value) (h0 : w1.cell? ⟨N, 0, none⟩ = some y0) (h1 : w1.cell? ⟨N, 1, none⟩ = some y1) (h2 : w1.cell? ⟨N, 2, none⟩ = some y2) :
    ((((w1.setCell ⟨N, 0, none⟩ x0).setCell ⟨N, 1, none⟩ x1).setCell ⟨N, 2, none⟩ x2).setCell ⟨sb, 4, none⟩ u).cell? ⟨N, 0, none⟩ = some x0 ∧
    ((((w1.setCell ⟨N, 0, none⟩ x0).setCell ⟨N, 1, none⟩ x1).setCell ⟨N, 2, none⟩ x2).setCell ⟨sb, 4, none⟩ u).cell? ⟨N, 1, none⟩ = some x1 ∧
    ((((w1.setCell ⟨N, 0, none⟩ x0).setCell ⟨N, 1, none⟩ x1).setCell ⟨N, 2, none⟩ x2).setCell ⟨sb, 4, none⟩ u).cell? ⟨N, 2, none⟩ = some x2 := by
  refine ⟨?_, ?_, ?_⟩
  · rw [World.cell?_setCell_other _ ⟨sb, 4, none⟩ ⟨N, 0, none⟩ _ (by simp <;> omega), World.cell?_setCell_other _ _ _ _ (by simp), World.cell?_setCell_other _ _ _ _ (by simp)]
    exact World.cell?_setCell_same _ _ _ h0
  · rw [World.cell?_setCell_other _ ⟨sb, 4, none⟩ ⟨N, 1, none⟩ _ (by simp <;> omega), World.cell?_setCell_other _ _ _ _ (by simp)]
    exact World.cell?_setCell_same _ _ _ ((World.cell?_setCell_other _ _ _ _ (by simp)).trans h1)
  · rw [World.cell?_setCell_other _ ⟨sb, 4, none⟩ ⟨N, 2, none⟩ _ (by simp <;> omega)]
    exact World.cell?_setCell_same _ _ _ ((World.cell?_setCell_other _ _ _ _ (by simp)).trans ((World.cell?_setCell_other _ _ _ _ (by simp)).trans h2))

set_option maxRecDepth 100000 in
set_option maxHeartbeats 1600000 in
theorem version_nokey (h : SI w base sb n kb vs f) (hbase : base ≤ w.heap.size) {key : ByteArray} (hkey : key.size ≤ maxLen) {v : Int} (hv : vs key.data.toList = none) :
    Calls Try.prog 9 #[.pointer (some ⟨sb, 0, none⟩), .string key, .int .u64 v] w (VersionPost w base sb n kb f key v) := by
  have hlt := h.row.lt
  have c16 := rlock_lk h.row
  have hne : ¬ sb = w.heap.size := by omega
  have hne' : ¬ w.heap.size = sb := by omega
  go_enter_defers Try.func9, Try.ntmps9
  go_wp2_with fail
  refine Calls.mono c16 ?_
  rintro e w1 ⟨rfl, hw1⟩
  have HL : Hid (Lk w w1 sb kb) := by rw [hw1]; exact locked_facts h.row
  obtain ⟨hOR, d0, d2, d4, d6, z4, r0, r1, r2, q0, q1, q2, hsz, _, _⟩ := HL.out
  have hlk := h.look_key_at hOR hkey
  rw [hv, show recPtr none = none from rfl] at hlk
  have Hf : Hid (f key.data.toList v = none) := h.no _ _ hv
  clear hw1 hv c16 hOR
  go_wp2
  refine leaves_cons (f := 17) (args := #[.pointer (some ⟨sb, 0, none⟩)]) (by simp) (by simp [go_sem]) ?_
  have k0 := res_cell (N := w.heap.size) hne (.string ⟨#[]⟩) (.int .u64 0) (.slice none 0 0) d0
  have k2 := res_cell (N := w.heap.size) hne (.string ⟨#[]⟩) (.int .u64 0) (.slice none 0 0) d2
  have k4 := res_cell (N := w.heap.size) hne (.string ⟨#[]⟩) (.int .u64 0) (.slice none 0 0) d4
  have kz := res_frozen (N := w.heap.size) (.string ⟨#[]⟩) (.int .u64 0) (.slice none 0 0) z4
  refine (runlock_at .returning _ sb k0 k2 k4 kz).mono ?_
  rintro e u' w'' ⟨rfl, rfl, rfl⟩
  have hU := unlock_si h hbase HL.out (res_below w1 w.heap.size (.string ⟨#[]⟩) (.int .u64 0) (.slice none 0 0))
  obtain ⟨g0, g1, g2⟩ := res_read hne (.string ⟨#[]⟩) (.int .u64 0) (.slice none 0 0) (.int .i32 0) r0 r1 r2
  refine ⟨.tuple #[.agg #[.string ⟨#[]⟩, .int .u64 0, .slice none 0 0], .bool false], ?_, .inl ⟨Hf.out, rfl⟩, ⟨_, hU.1⟩, hU.2⟩
  clear hU k0 k2 k4 kz h HL
  simp [results, Try.results9, go_sem, g0, g1, g2]

theorem alloc_cell {W : World} (o : Obj) {b i : Nat} {v : Value} (h : W.cell? ⟨b, i, none⟩ = some v) : (W.alloc o).cell? ⟨b, i, none⟩ = some v :=
  below_cells ((Below.refl W.heap.size W).alloc (Nat.le_refl _) o) h

theorem res_read' {w1 : World} {N sb : Nat} (hne : ¬ sb = N) {y0 y1 y2 : Value} (x0 x1 x2 u : Value) (o : Obj) (h0 : w1.cell? ⟨N, 0, none⟩ = some y0) (h1 : w1.cell? ⟨N, 1, none⟩ = some y1) (h2 : w1.cell? ⟨N, 2, none⟩ = some y2) :
    (((((w1.setCell ⟨N, 0, none⟩ x0).setCell ⟨N, 1, none⟩ x1).setCell ⟨N, 2, none⟩ x2).alloc o).setCell ⟨sb, 4, none⟩ u).cell? ⟨N, 0, none⟩ = some x0 ∧
    (((((w1.setCell ⟨N, 0, none⟩ x0).setCell ⟨N, 1, none⟩ x1).setCell ⟨N, 2, none⟩ x2).alloc o).setCell ⟨sb, 4, none⟩ u).cell? ⟨N, 1, none⟩ = some x1 ∧
    (((((w1.setCell ⟨N, 0, none⟩ x0).setCell ⟨N, 1, none⟩ x1).setCell ⟨N, 2, none⟩ x2).alloc o).setCell ⟨sb, 4, none⟩ u).cell? ⟨N, 2, none⟩ = some x2 := by
  have hx : ∀ i, (⟨sb, 4, none⟩ : Addr) ≠ ⟨N, i, none⟩ := fun i e => by simp at e <;> omega
  refine ⟨?_, ?_, ?_⟩
  · rw [World.cell?_setCell_other _ ⟨sb, 4, none⟩ ⟨N, 0, none⟩ _ (hx 0)]
    apply alloc_cell
    rw [World.cell?_setCell_other _ ⟨N, 2, none⟩ ⟨N, 0, none⟩ _ (by simp), World.cell?_setCell_other _ ⟨N, 1, none⟩ ⟨N, 0, none⟩ _ (by simp)]
    exact World.cell?_setCell_same _ _ _ h0
  · rw [World.cell?_setCell_other _ ⟨sb, 4, none⟩ ⟨N, 1, none⟩ _ (hx 1)]
    apply alloc_cell
    rw [World.cell?_setCell_other _ ⟨N, 2, none⟩ ⟨N, 1, none⟩ _ (by simp)]
    exact World.cell?_setCell_same _ _ _ ((World.cell?_setCell_other _ _ _ _ (by simp)).trans h1)
  · rw [World.cell?_setCell_other _ ⟨sb, 4, none⟩ ⟨N, 2, none⟩ _ (hx 2)]
    apply alloc_cell
    exact World.cell?_setCell_same _ _ _ ((World.cell?_setCell_other _ _ _ _ (by simp)).trans ((World.cell?_setCell_other _ _ _ _ (by simp)).trans h2))

theorem res_below' (w1 : World) (N : Nat) (x0 x1 x2 : Value) (o : Obj) (hN : N ≤ w1.heap.size) : Below N w1 ((((w1.setCell ⟨N, 0, none⟩ x0).setCell ⟨N, 1, none⟩ x1).setCell ⟨N, 2, none⟩ x2).alloc o) :=
  (res_below w1 N x0 x1 x2).alloc (by simp [World.setCell]; exact hN) o

theorem alloc_frozen {W : World} (o : Obj) {b i : Nat} {v : Value} (hc : W.cell? ⟨b, i, none⟩ = some v) (h : W.frozen? ⟨b, i, none⟩ = false) : (W.alloc o).frozen? ⟨b, i, none⟩ = false :=
  (World.frozen?_of_block (w := W) (a := ⟨b, i, none⟩) (Below.heap_alloc W o b (World.block_lt_of_cell? W _ hc))).trans h

set_option maxRecDepth 100000 in
set_option maxHeartbeats 1600000 in
theorem version_key (h : SI w base sb n kb vs f) (hbase : base ≤ w.heap.size) {key : ByteArray} (hkey : key.size ≤ maxLen) {v : Int} (hwf : (Lit.int .u64 v).wf = true) {p m : Nat} (hv : vs key.data.toList = some (p, m)) :
    Calls Try.prog 9 #[.pointer (some ⟨sb, 0, none⟩), .string key, .int .u64 v] w (VersionPost w base sb n kb f key v) := by
  have hlt := h.row.lt
  have c16 := rlock_lk h.row
  have hne : ¬ sb = w.heap.size := by omega
  have hne' : ¬ w.heap.size = sb := by omega
  go_enter_defers Try.func9, Try.ntmps9
  go_wp2_with fail
  refine Calls.mono c16 ?_
  rintro e w1 ⟨rfl, hw1⟩
  have HL : Hid (Lk w w1 sb kb) := by rw [hw1]; exact locked_facts h.row
  obtain ⟨hOR, d0, d2, d4, d6, z4, r0, r1, r2, q0, q1, q2, hsz, _, _⟩ := HL.out
  have hlk := h.look_key_at hOR hkey
  rw [hv, show recPtr (some (p, m)) = some ⟨p, 0, none⟩ from rfl] at hlk
  have hpm := h.rec_map_at hOR hv
  rcases h.look_ver_at hOR hv hwf with ⟨hf, hl⟩ | ⟨x, d, hf, hx, hl⟩
  · have Hf : Hid _ := hf
    clear hw1 hv c16 hOR hf
    go_wp2
    refine leaves_cons (f := 17) (args := #[.pointer (some ⟨sb, 0, none⟩)]) (by simp) (by simp [go_sem]) ?_
    have k0 := alloc_cell (.cells #[(.slice none 0 0), .int .u64 0] 63) (res_cell (N := w.heap.size) hne (.string ⟨#[]⟩) (.int .u64 0) (.slice none 0 0) d0)
    have k2 := alloc_cell (.cells #[(.slice none 0 0), .int .u64 0] 63) (res_cell (N := w.heap.size) hne (.string ⟨#[]⟩) (.int .u64 0) (.slice none 0 0) d2)
    have k4 := alloc_cell (.cells #[(.slice none 0 0), .int .u64 0] 63) (res_cell (N := w.heap.size) hne (.string ⟨#[]⟩) (.int .u64 0) (.slice none 0 0) d4)
    have kz := alloc_frozen (.cells #[(.slice none 0 0), .int .u64 0] 63) (res_cell (N := w.heap.size) hne (.string ⟨#[]⟩) (.int .u64 0) (.slice none 0 0) d4) (res_frozen (N := w.heap.size) (.string ⟨#[]⟩) (.int .u64 0) (.slice none 0 0) z4)
    refine (runlock_at .returning _ sb k0 k2 k4 kz).mono ?_
    rintro e u' w'' ⟨rfl, rfl, rfl⟩
    have hU := unlock_si h hbase HL.out (res_below' w1 w.heap.size (.string ⟨#[]⟩) (.int .u64 0) (.slice none 0 0) (.cells #[(.slice none 0 0), .int .u64 0] 63) (by rw [hsz]; exact Nat.le_succ _))
    obtain ⟨g0, g1, g2⟩ := res_read' hne (.string ⟨#[]⟩) (.int .u64 0) (.slice none 0 0) (.int .i32 0) (.cells #[(.slice none 0 0), .int .u64 0] 63) r0 r1 r2
    refine ⟨.tuple #[.agg #[(.string ⟨#[]⟩), (.int .u64 0), (.slice none 0 0)], .bool false], ?_, .inl ⟨Hf.out, rfl⟩, ⟨_, hU.1⟩, hU.2⟩
    clear hU k0 k2 k4 kz h HL
    simp [results, Try.results9, go_sem, g0, g1, g2]
  · have Hf : Hid _ := hf
    obtain ⟨ax, cx, rfl⟩ := hx.shape
    clear hw1 hv c16 hOR hf
    go_wp2
    refine leaves_cons (f := 17) (args := #[.pointer (some ⟨sb, 0, none⟩)]) (by simp) (by simp [go_sem]) ?_
    have k0 := alloc_cell (.cells #[(.slice ax (dlen d) cx), .int .u64 0] 63) (res_cell (N := w.heap.size) hne (.string key) (.int .u64 v) (.slice ax (dlen d) cx) d0)
    have k2 := alloc_cell (.cells #[(.slice ax (dlen d) cx), .int .u64 0] 63) (res_cell (N := w.heap.size) hne (.string key) (.int .u64 v) (.slice ax (dlen d) cx) d2)
    have k4 := alloc_cell (.cells #[(.slice ax (dlen d) cx), .int .u64 0] 63) (res_cell (N := w.heap.size) hne (.string key) (.int .u64 v) (.slice ax (dlen d) cx) d4)
    have kz := alloc_frozen (.cells #[(.slice ax (dlen d) cx), .int .u64 0] 63) (res_cell (N := w.heap.size) hne (.string key) (.int .u64 v) (.slice ax (dlen d) cx) d4) (res_frozen (N := w.heap.size) (.string key) (.int .u64 v) (.slice ax (dlen d) cx) z4)
    refine (runlock_at .returning _ sb k0 k2 k4 kz).mono ?_
    rintro e u' w'' ⟨rfl, rfl, rfl⟩
    have hU := unlock_si h hbase HL.out (res_below' w1 w.heap.size (.string key) (.int .u64 v) (.slice ax (dlen d) cx) (.cells #[(.slice ax (dlen d) cx), .int .u64 0] 63) (by rw [hsz]; exact Nat.le_succ _))
    obtain ⟨g0, g1, g2⟩ := res_read' hne (.string key) (.int .u64 v) (.slice ax (dlen d) cx) (.int .i32 0) (.cells #[(.slice ax (dlen d) cx), .int .u64 0] 63) r0 r1 r2
    refine ⟨.tuple #[.agg #[(.string key), (.int .u64 v), (.slice ax (dlen d) cx)], .bool true], ?_, .inr ⟨_, d, Hf.out, hx, rfl⟩, ⟨_, hU.1⟩, hU.2⟩
    clear hU k0 k2 k4 kz h HL
    simp [results, Try.results9, go_sem, g0, g1, g2]

/-- '(*Store).Version': the answer is the content's; the store stays what it is. -/
theorem version9 (h : SI w base sb n kb vs f) (hbase : base ≤ w.heap.size) {key : ByteArray} (hkey : key.size ≤ maxLen) {v : Int} (hwf : (Lit.int .u64 v).wf = true) :
    Calls Try.prog 9 #[.pointer (some ⟨sb, 0, none⟩), .string key, .int .u64 v] w (VersionPost w base sb n kb f key v) := by
  cases hv : vs key.data.toList with
  | none => exact version_nokey h hbase hkey hv
  | some q => exact version_key h hbase hkey hwf (p := q.1) (m := q.2) hv
end
end Go.Proofs.Qxb6626901a
