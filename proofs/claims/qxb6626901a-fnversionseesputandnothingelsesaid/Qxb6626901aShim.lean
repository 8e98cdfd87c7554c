/-
  Seat b6626901a: the shim's functions (18 to 25), each by its contract over 'SI'.
-/
import Derived.Test.Qxb6626901aStore
namespace Go.Proofs.Qxb6626901a
open Go.RowKit
set_option linter.unusedSimpArgs false
set_option linter.unusedVariables false

theorem zero61 (w : World) : (zeroValue 61).run Try.prog w = .ok (.pointer none) w := by kernel_rfl
theorem zero63 (w : World) : (zeroValue 63).run Try.prog w = .ok (.agg #[.slice none 0 0, .int .u64 0]) w := by kernel_rfl

section
variable {w : World} {base sb n kb : Nat} {vs : List UInt8 → Option (Nat × Nat)} {f : List UInt8 → Int → Option (Option (List Int))}

theorem StoreRow.map {w : World} {sb kb : Nat} {rc : Int} (h : StoreRow w sb kb rc) : w.cell? ⟨sb, 6, none⟩ = some (.map (some kb)) := by
  obtain ⟨c, cnt, hb, _, _, _, _, h6, _⟩ := h
  simp [World.cell?, hb, h6]

/-- The pointer that a key's record has. -/
def recPtr (o : Option (Nat × Nat)) : Option Addr := o.map fun p => ⟨p.1, 0, none⟩

theorem SI.look_key (h : SI w base sb n kb vs f) {key : ByteArray} (hkey : key.size ≤ maxLen) :
    (Instr.lookup 53 (.map (some kb)) (.string key) false).run Try.prog w = .ok (.pointer (recPtr (vs key.data.toList))) w := by
  rw [h.keys.look law9 Try.underlying53 (zero61 w) (WideMaps.keyOf_string_mk Try.underlying9 hkey)]
  simp only [keysFn, recPtr]
  cases vs key.data.toList <;> rfl

/-- 'ZZkeyVersions'. -/
theorem walk18 (h : SI w base sb n kb vs f) {key : ByteArray} (hkey : key.size ≤ maxLen) :
    Calls Try.prog 18 #[.pointer (some ⟨sb, 0, none⟩), .string key] w fun e w' => e = .returned (.pointer (recPtr (vs key.data.toList))) ∧ w' = w := by
  have h6 := h.row.map
  have hl := h.look_key hkey
  generalize recPtr (vs key.data.toList) = r at hl ⊢
  clear h
  go_enter Try.func18, Try.ntmps18
  go_wp2
  go_ret
  exact ⟨rfl, rfl⟩

/-- 'ZZaddKey'. -/
theorem walk19 (h : SI w base sb n kb vs f) (hbase : base ≤ w.heap.size) {key : ByteArray} (hkey : key.size ≤ maxLen) (hn : n < maxLen) (hv : vs key.data.toList = none) :
    Calls Try.prog 19 #[.pointer (some ⟨sb, 0, none⟩), .string key] w fun e w' => e = .returned (.pointer (some ⟨w.heap.size + 1, 0, none⟩)) ∧
      Hid (SI w' base sb (n + 1) kb (addVs vs key.data.toList (w.heap.size + 1) w.heap.size) f ∧ Kept base w w') := by
  have h6 := (h.below (newRec_below w) hbase).row.map
  obtain ⟨w', hrun, hS, hK⟩ := h.add_key hbase hkey hn hv
  have HS : Hid (SI w' base sb (n + 1) kb (addVs vs key.data.toList (w.heap.size + 1) w.heap.size) f ∧ Kept base w w') := ⟨hS, hK⟩
  unfold newRec at h6 hrun
  have hmm := @run_makeMap Try.prog
  clear h hS hK hv
  go_enter Try.func19, Try.ntmps19
  go_wp2
  go_ret
  exact ⟨rfl, HS⟩

/-- What the look-up of a version finds. -/
theorem SI.look_ver (h : SI w base sb n kb vs f) {k : List UInt8} {p m : Nat} (hv : vs k = some (p, m)) {v : Int} (hwf : (Lit.int .u64 v).wf = true) :
    (f k v = none ∧ (Instr.lookup 65 (.map (some m)) (.int .u64 v) true).run Try.prog w = .ok (.tuple #[.agg #[.slice none 0 0, .int .u64 0], .bool false]) w) ∨
    ∃ x d, f k v = some d ∧ OwnBytes w base x d ∧ (Instr.lookup 65 (.map (some m)) (.int .u64 v) true).run Try.prog w = .ok (.tuple #[.agg #[x, .int .u64 0], .bool true]) w := by
  obtain ⟨_, _, _, _, ⟨g, hM, hg⟩⟩ := h.recs k p m hv
  have hl := hM.look_ok law23 Try.underlying65 (zero63 w) (Maps.keyOf_int_mk Try.underlying23 hwf)
  rcases hg v with ⟨h1, h2⟩ | ⟨x, d, h1, h2, h3⟩
  · left
    simp only [verFn, h1] at hl
    exact ⟨h2, hl⟩
  · right
    simp only [verFn, h1] at hl
    exact ⟨x, d, h2, h3, hl⟩

theorem SI.rec_map (h : SI w base sb n kb vs f) {k : List UInt8} {p m : Nat} (hv : vs k = some (p, m)) : w.cell? ⟨p, 2, none⟩ = some (.map (some m)) ∧ ∃ hi, w.cell? ⟨p, 1, none⟩ = some (.int .u64 hi) ∧ w.frozen? ⟨p, 1, none⟩ = false := by
  obtain ⟨_, _, _, ⟨hi, h4⟩, _⟩ := h.recs k p m hv
  refine ⟨by simp [World.cell?, h4], hi, by simp [World.cell?, h4], by simp [World.frozen?, h4]⟩

/-- A slice value of bytes is one cell. -/
theorem OwnBytes.shape {w : World} {b0 : Nat} {x : Value} {d : Option (List Int)} (h : OwnBytes w b0 x d) : ∃ a c, x = .slice a (dlen d) c := h.bytes.slice

/-- 'ZZhasVersion'. -/
theorem walk20 (h : SI w base sb n kb vs f) (hbase : base ≤ w.heap.size) {k : List UInt8} {p m : Nat} (hv : vs k = some (p, m)) {v : Int} (hwf : (Lit.int .u64 v).wf = true) :
    Calls Try.prog 20 #[.pointer (some ⟨p, 0, none⟩), .int .u64 v] w fun e w' => e = .returned (.bool (f k v).isSome) ∧ Hid (Below w.heap.size w w') := by
  obtain ⟨h2, _⟩ := h.rec_map hv
  rcases h.look_ver hv hwf with ⟨hf, hl⟩ | ⟨x, d, hf, hx, hl⟩
  · rw [hf]
    clear h hf
    go_enter Try.func20, Try.ntmps20
    go_wp2
    go_ret
    exact ⟨rfl, (Below.refl _ _).alloc (Nat.le_refl _) _⟩
  · rw [hf]
    obtain ⟨a, c, rfl⟩ := hx.shape
    clear h hf hx
    go_enter Try.func20, Try.ntmps20
    go_wp2
    go_ret
    exact ⟨rfl, (Below.refl _ _).alloc (Nat.le_refl _) _⟩

/-- 'ZZcount', 'ZZsetCount'. -/
theorem walk22 (h : SI w base sb n kb vs f) : Calls Try.prog 22 #[.pointer (some ⟨sb, 0, none⟩)] w fun e w' => (∃ cnt, e = .returned (.int .i64 cnt)) ∧ w' = w := by
  obtain ⟨c, cnt, hb, _, _, _, _, _, h7⟩ := h.row
  have hc : w.cell? ⟨sb, 7, none⟩ = some (.int .i64 cnt) := by simp [World.cell?, hb, h7]
  clear h hb h7
  go_enter Try.func22, Try.ntmps22
  go_wp2
  go_ret
  exact ⟨⟨cnt, rfl⟩, rfl⟩

theorem StoreRow.set7 {w : World} {sb kb : Nat} {rc : Int} (h : StoreRow w sb kb rc) (x : Int) : StoreRow (w.setCell ⟨sb, 7, none⟩ (.int .i64 x)) sb kb rc := by
  obtain ⟨c, cnt, hb, h0, h2, h3, h4, h6, h7⟩ := h
  have hl : 7 < c.size := (Array.getElem?_eq_some_iff.1 h7).1
  exact ⟨_, x, row_setCell hb 7 _, by simpa [Array.getElem?_setIfInBounds] using h0, by simpa [Array.getElem?_setIfInBounds] using h2, by simpa [Array.getElem?_setIfInBounds] using h3, by simpa [Array.getElem?_setIfInBounds] using h4, by simpa [Array.getElem?_setIfInBounds] using h6, by simp [Array.getElem?_setIfInBounds, hl]⟩

theorem SI.set_count (h : SI w base sb n kb vs f) (x : Int) : SI (w.setCell ⟨sb, 7, none⟩ (.int .i64 x)) base sb n kb vs f ∧ Kept base w (w.setCell ⟨sb, 7, none⟩ (.int .i64 x)) := by
  have hg := grownBy_setCell w ⟨sb, 7, none⟩ (.int .i64 x)
  have hK : Kept base w (w.setCell ⟨sb, 7, none⟩ (.int .i64 x)) := Kept.of_one sb hg h.hsb h.row.lt (fun c t fr hc => by
    obtain ⟨c', cnt, hb, _⟩ := h.row
    rw [hb] at hc
    simp only [Option.some.injEq, Obj.cells.injEq] at hc
    exact .inl hc.2.1.symm)
  exact ⟨h.turn_row hK (fun b hb hne => hg.block b hb (by simpa using hne)) (h.row.set7 x), hK⟩

theorem walk21 (h : SI w base sb n kb vs f) (x : Int) : Calls Try.prog 21 #[.pointer (some ⟨sb, 0, none⟩), .int .i64 x] w fun e w' => e = .returned (.tuple #[]) ∧ Hid (SI w' base sb n kb vs f ∧ Kept base w w') := by
  have HS : Hid _ := h.set_count x
  obtain ⟨c, cnt, hb, _, _, _, _, _, h7⟩ := h.row
  have hc : w.cell? ⟨sb, 7, none⟩ = some (.int .i64 cnt) := by simp [World.cell?, hb, h7]
  have hz : w.frozen? ⟨sb, 7, none⟩ = false := by simp [World.frozen?, hb]
  clear h hb h7
  go_enter Try.func21, Try.ntmps21
  go_wp2
  go_end0
  exact ⟨rfl, HS⟩

/-- 'ZZhighest', 'ZZsetHighest'. -/
theorem walk23 (h : SI w base sb n kb vs f) {k : List UInt8} {p m : Nat} (hv : vs k = some (p, m)) : Calls Try.prog 23 #[.pointer (some ⟨p, 0, none⟩)] w fun e w' => (∃ hi, e = .returned (.int .u64 hi)) ∧ w' = w := by
  obtain ⟨_, hi, hc, _⟩ := h.rec_map hv
  clear h
  go_enter Try.func23, Try.ntmps23
  go_wp2
  go_ret
  exact ⟨⟨hi, rfl⟩, rfl⟩

theorem SI.set_highest (h : SI w base sb n kb vs f) {k : List UInt8} {p m : Nat} (hv : vs k = some (p, m)) (x : Int) : SI (w.setCell ⟨p, 1, none⟩ (.int .u64 x)) base sb n kb vs f ∧ Kept base w (w.setCell ⟨p, 1, none⟩ (.int .u64 x)) := by
  obtain ⟨r1, _, _, ⟨hi, h4⟩, _⟩ := h.recs k p m hv
  have hg := grownBy_setCell w ⟨p, 1, none⟩ (.int .u64 x)
  have hK : Kept base w (w.setCell ⟨p, 1, none⟩ (.int .u64 x)) := Kept.of_one p hg r1 (h.lt_p hv).1 (fun c t fr hc => by
    rw [h4] at hc
    simp only [Option.some.injEq, Obj.cells.injEq] at hc
    exact .inr hc.2.1.symm)
  exact ⟨h.turn_rec hv hK (fun b hb hne => hg.block b hb (by simpa using hne)) ⟨x, by rw [row_setCell h4 1]; rfl⟩, hK⟩

theorem walk24 (h : SI w base sb n kb vs f) {k : List UInt8} {p m : Nat} (hv : vs k = some (p, m)) (x : Int) : Calls Try.prog 24 #[.pointer (some ⟨p, 0, none⟩), .int .u64 x] w fun e w' => e = .returned (.tuple #[]) ∧ Hid (SI w' base sb n kb vs f ∧ Kept base w w') := by
  have HS : Hid _ := h.set_highest hv x
  obtain ⟨_, hi, hc, hz⟩ := h.rec_map hv
  clear h
  go_enter Try.func24, Try.ntmps24
  go_wp2
  go_end0
  exact ⟨rfl, HS⟩

/-- 'ZZsetEntry'. -/
theorem walk25 (h : SI w base sb n kb vs f) {k : List UInt8} {p m : Nat} (hv : vs k = some (p, m)) {v : Int} (hwf : (Lit.int .u64 v).wf = true) (hn : n < maxLen) {x : Value} {d : Option (List Int)} (hx : OwnBytes w base x d) :
    Calls Try.prog 25 #[.pointer (some ⟨p, 0, none⟩), .int .u64 v, x] w fun e w' => e = .returned (.tuple #[]) ∧ Hid (SI w' base sb (n + 1) kb vs (putF f k v d) ∧ Kept base w w') := by
  obtain ⟨a, c, rfl⟩ := hx.shape
  obtain ⟨w', hrun, hS, hK⟩ := h.set_entry hv hwf hn hx
  have HS : Hid (SI w' base sb (n + 1) kb vs (putF f k v d) ∧ Kept base w w') := ⟨hS, hK⟩
  obtain ⟨h2, _⟩ := h.rec_map hv
  clear h hx hS hK
  go_enter Try.func25, Try.ntmps25
  go_wp2
  go_end0
  exact ⟨rfl, HS⟩
end
end Go.Proofs.Qxb6626901a
