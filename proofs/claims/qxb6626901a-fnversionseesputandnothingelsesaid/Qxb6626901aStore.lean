/-
  Seat b6626901a: the store as it lies in memory ('SI'), told by a plain function from (key, version) to the value's bytes; what each of the shim's writes does to it. No Go is walked here.
-/
import Derived.Test.Qxb6626901aCloneHeld
import Derived.Test.Qxb6626901aMaps
namespace Go.Proofs.Qxb6626901a
open Go.RowKit
set_option linter.unusedSimpArgs false
set_option linter.unusedVariables false

def keysFn (vs : List UInt8 → Option (Nat × Nat)) : Lit → Option Value
  | .string k => (vs k).map fun p => .pointer (some ⟨p.1, 0, none⟩)
  | _ => none

def verFn (g : Int → Option Value) : Lit → Option Value
  | .int .u64 v => (g v).map fun x => .agg #[x, .int .u64 0]
  | _ => none

/-- The cells of the store's own struct that are read. -/
def StoreRow (w : World) (sb kb : Nat) (rc : Int) : Prop :=
  ∃ c cnt, w.heap[sb]? = some (.cells c 60 (0, 0)) ∧ c[0]? = some (.int .i32 0) ∧ c[2]? = some (.int .u32 0) ∧ c[3]? = some (.int .u32 0) ∧ c[4]? = some (.int .i32 rc) ∧ c[6]? = some (.map (some kb)) ∧ c[7]? = some (.int .i64 cnt)

/-- What the maps of one key hold. -/
def Vers (w : World) (base n m : Nat) (f : Int → Option (Option (List Int))) : Prop :=
  ∃ g, MapIs w 23 m n (verFn g) ∧ ∀ v, (g v = none ∧ f v = none) ∨ ∃ x d, g v = some x ∧ f v = some d ∧ OwnBytes w base x d

/-- The record of one key. -/
def RecRow (w : World) (p m : Nat) : Prop := ∃ h, w.heap[p]? = some (.cells #[.int .u32 0, .int .u64 h, .map (some m)] 67 (0, 0))

structure SI (w : World) (base sb n kb : Nat) (vs : List UInt8 → Option (Nat × Nat)) (f : List UInt8 → Int → Option (Option (List Int))) : Prop where
  row : StoreRow w sb kb 0
  hsb : base ≤ sb
  hkb : base ≤ kb
  keys : MapIs w 9 kb n (keysFn vs)
  recs : ∀ k p m, vs k = some (p, m) → base ≤ p ∧ base ≤ m ∧ m ≠ kb ∧ RecRow w p m ∧ Vers w base n m (f k)
  no : ∀ k v, vs k = none → f k v = none
  inj : ∀ k k' p m p' m', vs k = some (p, m) → vs k' = some (p', m') → k ≠ k' → p ≠ p' ∧ m ≠ m'

/-- Nothing below 'base' has turned, and no row of another type than the store's two. -/
structure Kept (base : Nat) (w w' : World) : Prop where
  below : Below base w w'
  rows : ∀ (b : Nat) (c : Array Value) (t : TypeId) (fr : Nat × Nat), w.heap[b]? = some (Obj.cells c t fr) → t ≠ 60 → t ≠ 67 → w'.heap[b]? = some (Obj.cells c t fr)

theorem Kept.refl (base : Nat) (w : World) : Kept base w w := ⟨Below.refl _ _, fun _ _ _ _ h _ _ => h⟩
theorem Kept.trans {base : Nat} {w w' w'' : World} (h : Kept base w w') (h' : Kept base w' w'') : Kept base w w'' :=
  ⟨h.below.trans h'.below, fun b c t fr hb h0 h7 => h'.rows b c t fr (h.rows b c t fr hb h0 h7) h0 h7⟩
theorem Kept.of_below {base : Nat} {w w' : World} (h : Below w.heap.size w w') (hb : base ≤ w.heap.size) : Kept base w w' :=
  ⟨h.mono hb, fun b c t fr hc _ _ => (h.block b (Array.getElem?_eq_some_iff.1 hc).1).trans hc⟩
theorem Kept.drew {base : Nat} {w w' : World} (h : Kept base w w') : Kept base w w'.drew := ⟨h.below.drew, h.rows⟩

/-- One block has turned, from 'base' on: a map, or a row of the store's types. -/
theorem Kept.of_one {base : Nat} {w w' : World} (b : Nat) (hg : w.grownBy w' (some b)) (hb : base ≤ b) (hlt : b < w.heap.size) (hk : ∀ (c : Array Value) (t : TypeId) (fr : Nat × Nat), w.heap[b]? = some (Obj.cells c t fr) → t = 60 ∨ t = 67) : Kept base w w' := by
  refine ⟨⟨hg.os, hg.tape, hg.output, hg.size, fun k hk => hg.block k (by omega) (fun e => by simp at e; omega)⟩, fun k c t fr hc h0 h7 => ?_⟩
  have hkl := (Array.getElem?_eq_some_iff.1 hc).1
  rw [hg.block k hkl (fun e => ?_)]
  · exact hc
  · simp at e
    subst e
    rcases hk c t fr hc with h | h
    · exact h0 h
    · exact h7 h

theorem grownBy_setCell (w : World) (a : Addr) (u : Value) : w.grownBy (w.setCell a u) (some a.block) :=
  ⟨rfl, rfl, rfl, by simp [World.setCell], fun k _ hk => Below.heap_setCell _ _ _ _ (fun e => hk (by rw [e]))⟩

theorem OwnBytes.kept {base : Nat} {w w' : World} (h : Kept base w w') {b0 : Nat} {v : Value} {d : Option (List Int)} (ho : OwnBytes w b0 v d) : OwnBytes w' b0 v d := by
  cases d with
  | none => exact ho
  | some zs =>
    obtain ⟨g, rfl, hg, hr⟩ := ho
    refine ⟨g, rfl, hg, ?_⟩
    obtain ⟨c, hb, hn, hc⟩ := hr
    exact ⟨c, h.rows g c 5 (0, 0) hb (by decide) (by decide), hn, hc⟩

theorem Vers.kept {base b0 n m : Nat} {w w' : World} {f : Int → Option (Option (List Int))} (hV : Vers w b0 n m f) (h : Kept base w w') (hm : w'.heap[m]? = w.heap[m]?) : Vers w' b0 n m f := by
  obtain ⟨g, hM, hg⟩ := hV
  refine ⟨g, hM.of_block hm, fun v => ?_⟩
  rcases hg v with h1 | ⟨x, d, h1, h2, h3⟩
  · exact .inl h1
  · exact .inr ⟨x, d, h1, h2, h3.kept h⟩

theorem Vers.mono {b0 n n' m : Nat} {w : World} {f : Int → Option (Option (List Int))} (hV : Vers w b0 n m f) (h : n ≤ n') : Vers w b0 n' m f := by
  obtain ⟨g, hM, hg⟩ := hV
  exact ⟨g, hM.mono h, hg⟩

theorem StoreRow.lt {w : World} {sb kb : Nat} {rc : Int} (h : StoreRow w sb kb rc) : sb < w.heap.size := by
  obtain ⟨c, cnt, hb, _⟩ := h
  exact (Array.getElem?_eq_some_iff.1 hb).1

section
variable {w w' : World} {base sb n kb : Nat} {vs : List UInt8 → Option (Nat × Nat)} {f : List UInt8 → Int → Option (Option (List Int))}

theorem SI.kb_ne_sb (h : SI w base sb n kb vs f) : kb ≠ sb := by
  obtain ⟨c, cnt, hb, _⟩ := h.row
  obtain ⟨es, clock, hm⟩ := h.keys.isMap
  intro e
  rw [e, hb] at hm
  simp at hm

/-- New blocks alone. -/
theorem SI.below (h : SI w base sb n kb vs f) (hb : Below w.heap.size w w') (hbase : base ≤ w.heap.size) : SI w' base sb n kb vs f := by
  have hk : Kept base w w' := Kept.of_below hb hbase
  refine ⟨?_, h.hsb, h.hkb, h.keys.of_block (hb.block _ h.keys.lt), ?_, h.no, h.inj⟩
  · obtain ⟨c, cnt, hc, r⟩ := h.row
    exact ⟨c, cnt, (hb.block _ (Array.getElem?_eq_some_iff.1 hc).1).trans hc, r⟩
  · intro k p m hv
    obtain ⟨h1, h2, h3, ⟨hh, h4⟩, h5⟩ := h.recs k p m hv
    have hml : m < w.heap.size := by obtain ⟨g, hM, _⟩ := h5; exact hM.lt
    exact ⟨h1, h2, h3, ⟨hh, (hb.block _ (Array.getElem?_eq_some_iff.1 h4).1).trans h4⟩, h5.kept hk (hb.block _ hml)⟩

/-- The store's own row has turned, and new blocks: the row's facts anew. -/
theorem SI.turn_row (h : SI w base sb n kb vs f) (hk : Kept base w w') (hb : ∀ b, b < w.heap.size → b ≠ sb → w'.heap[b]? = w.heap[b]?) (hr : StoreRow w' sb kb 0) : SI w' base sb n kb vs f := by
  have hs := h.row
  obtain ⟨c, cnt, hsb, _⟩ := hs
  refine ⟨hr, h.hsb, h.hkb, h.keys.of_block (hb _ h.keys.lt h.kb_ne_sb), ?_, h.no, h.inj⟩
  intro k p m hv
  obtain ⟨h1, h2, h3, ⟨hh, h4⟩, h5⟩ := h.recs k p m hv
  have hml : m < w.heap.size := by obtain ⟨g, hM, _⟩ := h5; exact hM.lt
  have hpn : p ≠ sb := fun e => by rw [e, hsb] at h4; simp at h4
  have hmn : m ≠ sb := fun e => by
    obtain ⟨g, hM, _⟩ := h5
    obtain ⟨es, clock, hm⟩ := hM.isMap
    rw [e, hsb] at hm
    simp at hm
  exact ⟨h1, h2, h3, ⟨hh, (hb p (Array.getElem?_eq_some_iff.1 h4).1 hpn).trans h4⟩, h5.kept hk (hb m hml hmn)⟩

/-- The record of key k has turned in its 'highest'. -/
theorem SI.turn_rec (h : SI w base sb n kb vs f) {k : List UInt8} {p m : Nat} (hv : vs k = some (p, m)) (hk : Kept base w w') (hb : ∀ b, b < w.heap.size → b ≠ p → w'.heap[b]? = w.heap[b]?) (hr : RecRow w' p m) : SI w' base sb n kb vs f := by
  obtain ⟨_, _, _, ⟨hh, hp⟩, _⟩ := h.recs k p m hv
  have hmap : ∀ b, b < w.heap.size → (∃ es clock, w.heap[b]? = some (.map es clock)) → w'.heap[b]? = w.heap[b]? := by
    rintro b hl ⟨es, clock, hm⟩
    refine hb b hl (fun e => ?_)
    rw [e, hp] at hm
    simp at hm
  refine ⟨?_, h.hsb, h.hkb, h.keys.of_block (hmap _ h.keys.lt h.keys.isMap), ?_, h.no, h.inj⟩
  · obtain ⟨c, cnt, hc, r⟩ := h.row
    refine ⟨c, cnt, (hb _ (Array.getElem?_eq_some_iff.1 hc).1 (fun e => ?_)).trans hc, r⟩
    rw [e, hp] at hc
    simp at hc
  · intro k' p' m' hv'
    obtain ⟨h1, h2, h3, ⟨hh', h4⟩, h5⟩ := h.recs k' p' m' hv'
    have hml : m' < w.heap.size ∧ ∃ es clock, w.heap[m']? = some (.map es clock) := by obtain ⟨g, hM, _⟩ := h5; exact ⟨hM.lt, hM.isMap⟩
    refine ⟨h1, h2, h3, ?_, h5.kept hk (hmap m' hml.1 hml.2)⟩
    by_cases e : k' = k
    · subst e
      rw [hv] at hv'
      simp only [Option.some.injEq, Prod.mk.injEq] at hv'
      obtain ⟨rfl, rfl⟩ := hv'
      exact hr
    · have := (h.inj k' k p' m' p m hv' hv e).1
      exact ⟨hh', (hb p' (Array.getElem?_eq_some_iff.1 h4).1 this).trans h4⟩

/-- The records with one key more. -/
def addVs (vs : List UInt8 → Option (Nat × Nat)) (k : List UInt8) (p m : Nat) : List UInt8 → Option (Nat × Nat) := fun k' => if k' = k then some (p, m) else vs k'

/-- The content with one entry put. -/
def putF (f : List UInt8 → Int → Option (Option (List Int))) (k : List UInt8) (v : Int) (d : Option (List Int)) : List UInt8 → Int → Option (Option (List Int)) := fun k' v' => if k' = k ∧ v' = v then some d else f k' v'

theorem verFn_none : verFn (fun _ => none) = fun _ => none := by
  funext l
  unfold verFn
  split <;> rfl

/-- The world with a new key's map and record. -/
def newRec (w : World) : World := (w.alloc (.map #[] 0)).alloc (.cells #[.int .u32 0, .int .u64 0, .map (some w.heap.size)] 67)

theorem newRec_size (w : World) : (newRec w).heap.size = w.heap.size + 2 := by simp [newRec]
theorem newRec_below (w : World) : Below w.heap.size w (newRec w) := ((Below.refl _ _).alloc (Nat.le_refl _) _).alloc (by simp) _
theorem newRec_rec (w : World) : (newRec w).heap[w.heap.size + 1]? = some (.cells #[.int .u32 0, .int .u64 0, .map (some w.heap.size)] 67 (0, 0)) := by
  have h := heap_alloc_new (w.alloc (.map #[] 0)) (.cells #[.int .u32 0, .int .u64 0, .map (some w.heap.size)] 67)
  simpa [newRec] using h
theorem newRec_map (w : World) : MapIs (newRec w) 23 w.heap.size 0 (fun _ => none) :=
  (MapIs.made w 23).of_block (Below.heap_alloc _ _ _ (by simp))

theorem mapTurned_block {w w' : World} {b : Nat} (h : w.mapTurned w' b) {k : Nat} (hk : k < w.heap.size) (hne : k ≠ b) : w'.heap[k]? = w.heap[k]? := h.grown.block k hk (by simp [hne])

theorem Kept.of_map {base : Nat} {w w' : World} {b : Nat} (h : w.mapTurned w' b) (hb : base ≤ b) (hm : ∃ es clock, w.heap[b]? = some (.map es clock)) : Kept base w w' := by
  obtain ⟨es, clock, hm⟩ := hm
  refine Kept.of_one b h.grown hb (Array.getElem?_eq_some_iff.1 hm).1 (fun c t fr hc => ?_)
  rw [hm] at hc
  simp at hc

theorem SI.lt_p (h : SI w base sb n kb vs f) {k : List UInt8} {p m : Nat} (hv : vs k = some (p, m)) : p < w.heap.size ∧ m < w.heap.size := by
  obtain ⟨_, _, _, ⟨hh, h4⟩, ⟨g, hM, _⟩⟩ := h.recs k p m hv
  exact ⟨(Array.getElem?_eq_some_iff.1 h4).1, hM.lt⟩

/-- 'ZZaddKey': a key that is not there gets a record of no versions. -/
theorem SI.add_key (h : SI w base sb n kb vs f) (hbase : base ≤ w.heap.size) {key : ByteArray} (hkey : key.size ≤ maxLen) (hn : n < maxLen) (hv : vs key.data.toList = none) :
    ∃ w', (Instr.mapUpdate 53 (.map (some kb)) (.string key) (.pointer (some ⟨w.heap.size + 1, 0, none⟩))).run Try.prog (newRec w) = .ok () w' ∧
      SI w' base sb (n + 1) kb (addVs vs key.data.toList (w.heap.size + 1) w.heap.size) f ∧ Kept base w w' := by
  have hb := newRec_below w
  have h1 := h.below hb hbase
  obtain ⟨w', hrun, hM, hT⟩ := h1.keys.store law9 Try.underlying53 hn (val := .pointer (some ⟨w.heap.size + 1, 0, none⟩)) (WideMaps.keyOf_string_mk Try.underlying9 hkey) (keysFn (addVs vs key.data.toList (w.heap.size + 1) w.heap.size)) (by simp [keysFn, addVs])
    (by
      intro l hl
      unfold keysFn
      split
      · rename_i k
        have : k ≠ key.data.toList := fun e => hl (by rw [e])
        simp [addVs, this]
      · rfl)
  have hK2 : Kept base (newRec w) w' := Kept.of_map hT h.hkb h1.keys.isMap
  have hblk : ∀ b, b < (newRec w).heap.size → b ≠ kb → w'.heap[b]? = (newRec w).heap[b]? := fun b hb hne => mapTurned_block hT hb hne
  have hkbl := h.keys.lt
  have hsz := newRec_size w
  refine ⟨w', hrun, ⟨?_, h.hsb, h.hkb, hM, ?_, ?_, ?_⟩, (Kept.of_below hb hbase).trans hK2⟩
  · obtain ⟨c, cnt, hc, r⟩ := h1.row
    exact ⟨c, cnt, (hblk _ (Array.getElem?_eq_some_iff.1 hc).1 (h1.kb_ne_sb.symm)).trans hc, r⟩
  · intro k p m hp
    unfold addVs at hp
    split at hp
    · rename_i e
      simp only [Option.some.injEq, Prod.mk.injEq] at hp
      obtain ⟨rfl, rfl⟩ := hp
      refine ⟨by omega, hbase, by omega, ⟨0, (hblk _ (by omega) (by omega)).trans (newRec_rec w)⟩, (fun _ => none), ?_, fun v => .inl ⟨rfl, by rw [e]; exact h.no _ v hv⟩⟩
      rw [verFn_none]
      exact ((newRec_map w).mono (Nat.zero_le _)).of_block (hblk _ (by omega) (by omega))
    · obtain ⟨r1, r2, r3, ⟨hh, r4⟩, r5⟩ := h1.recs k p m hp
      have hl := h1.lt_p hp
      have hpk : p ≠ kb := fun e => by
        obtain ⟨es, clock, hm⟩ := h1.keys.isMap
        rw [← e, r4] at hm
        simp at hm
      exact ⟨r1, r2, r3, ⟨hh, (hblk p hl.1 hpk).trans r4⟩, (r5.kept hK2 (hblk m hl.2 r3)).mono (Nat.le_succ _)⟩
  · intro k v hk
    unfold addVs at hk
    split at hk
    · cases hk
    · exact h.no k v hk
  · intro k k' p m p' m' hp hp' hne
    unfold addVs at hp hp'
    split at hp
    · rename_i e
      split at hp'
      · rename_i e'
        exact absurd (e.trans e'.symm) hne
      · simp only [Option.some.injEq, Prod.mk.injEq] at hp
        have := h.lt_p hp'
        omega
    · split at hp'
      · simp only [Option.some.injEq, Prod.mk.injEq] at hp'
        have := h.lt_p hp
        omega
      · exact h.inj k k' p m p' m' hp hp' hne

/-- 'ZZsetEntry': one entry put. -/
theorem SI.set_entry (h : SI w base sb n kb vs f) {k : List UInt8} {p m : Nat} (hv : vs k = some (p, m)) {v : Int} (hwf : (Lit.int .u64 v).wf = true) (hn : n < maxLen) {x : Value} {d : Option (List Int)} (hx : OwnBytes w base x d) :
    ∃ w', (Instr.mapUpdate 65 (.map (some m)) (.int .u64 v) (.agg #[x, .int .u64 0])).run Try.prog w = .ok () w' ∧ SI w' base sb (n + 1) kb vs (putF f k v d) ∧ Kept base w w' := by
  obtain ⟨r1, r2, r3, ⟨hh, r4⟩, ⟨g, hM, hg⟩⟩ := h.recs k p m hv
  obtain ⟨w', hrun, hM', hT⟩ := hM.store law23 Try.underlying65 hn (val := .agg #[x, .int .u64 0]) (Maps.keyOf_int_mk Try.underlying23 hwf) (verFn (fun v' => if v' = v then some x else g v')) (by simp [verFn])
    (by
      intro l hl
      unfold verFn
      split
      · rename_i v'
        have : v' ≠ v := fun e => hl (by rw [e])
        simp [this]
      · rfl)
  have hK : Kept base w w' := Kept.of_map hT r2 hM.isMap
  have hblk : ∀ b, b < w.heap.size → b ≠ m → w'.heap[b]? = w.heap[b]? := fun b hb hne => mapTurned_block hT hb hne
  obtain ⟨es, clock, hmm⟩ := hM.isMap
  have hrow : ∀ b c t fr, w.heap[b]? = some (Obj.cells c t fr) → b ≠ m := fun b c t fr hc e => by rw [e, hmm] at hc; simp at hc
  refine ⟨w', hrun, ⟨?_, h.hsb, h.hkb, (h.keys.of_block (hblk _ h.keys.lt r3.symm)).mono (Nat.le_succ _), ?_, ?_, h.inj⟩, hK⟩
  · obtain ⟨c, cnt, hc, r⟩ := h.row
    exact ⟨c, cnt, (hblk _ (Array.getElem?_eq_some_iff.1 hc).1 (hrow _ _ _ _ hc)).trans hc, r⟩
  · intro k' p' m' hp
    obtain ⟨q1, q2, q3, ⟨hh', q4⟩, q5⟩ := h.recs k' p' m' hp
    have hl := h.lt_p hp
    refine ⟨q1, q2, q3, ⟨hh', (hblk p' hl.1 (hrow _ _ _ _ q4)).trans q4⟩, ?_⟩
    by_cases e : k' = k
    · subst e
      rw [hv] at hp
      simp only [Option.some.injEq, Prod.mk.injEq] at hp
      obtain ⟨rfl, rfl⟩ := hp
      refine ⟨_, hM', fun v' => ?_⟩
      by_cases ev : v' = v
      · subst ev
        exact .inr ⟨x, d, by simp, by simp [putF], hx.kept hK⟩
      · rcases hg v' with ⟨h1, h2⟩ | ⟨x', d', h1, h2, h3⟩
        · exact .inl ⟨by simp [ev, h1], by simp [putF, ev, h2]⟩
        · exact .inr ⟨x', d', by simp [ev, h1], by simp [putF, ev, h2], h3.kept hK⟩
    · have hmm' : m' ≠ m := (h.inj k' k p' m' p m hp hv e).2
      have hf : putF f k v d k' = f k' := by funext v'; simp [putF, e]
      rw [hf]
      exact (q5.kept hK (hblk m' hl.2 hmm')).mono (Nat.le_succ _)
  · intro k' v' hk'
    have : k' ≠ k := fun e => by rw [e, hv] at hk'; cases hk'
    simp [putF, this, h.no k' v' hk']

end
end Go.Proofs.Qxb6626901a
