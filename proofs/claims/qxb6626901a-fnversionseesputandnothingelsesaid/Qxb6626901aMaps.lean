/-
  Seat b6626901a: a map block told by a plain function from keys to values ('MapIs'): look-ups and stores as equations on the operation's run.
-/
import Derived.Test.Qxb6626901aRows
import Derived.Maps.OwnSet
import Derived.StringKeys
namespace Go.Proofs.Qxb6626901a
open Go.RowKit
open Go.Maps (Keyed)

/-- An element read as itself. -/
def rawElem (v : Value) : Option (DataW Value × List MemPlace) := some (.held v, [])

/-- Block b is a map of at most n entries that holds (f key) at each key. -/
def MapIs (w : World) (k : TypeId) (b n : Nat) (f : Lit → Option Value) : Prop :=
  ∃ D, w.ownsMap Try.prog k rawElem b n D ∧ ∀ l, Maps.has D l = (f l).isSome ∧ ∀ z, D.atKey l (.held z) = .held ((f l).getD z)

theorem MapIs.made (w : World) (k : TypeId) : MapIs (w.alloc (.map #[] 0)) k w.heap.size 0 (fun _ => none) :=
  ⟨_, World.ownsMap_made w Try.prog k rawElem, fun _ => ⟨rfl, fun _ => rfl⟩⟩

theorem MapIs.lt {w : World} {k : TypeId} {b n : Nat} {f : Lit → Option Value} (h : MapIs w k b n f) : b < w.heap.size := by
  obtain ⟨D, ho, _⟩ := h
  exact ho.lt

theorem MapIs.isMap {w : World} {k : TypeId} {b n : Nat} {f : Lit → Option Value} (h : MapIs w k b n f) : ∃ es clock, w.heap[b]? = some (.map es clock) := by
  obtain ⟨D, ⟨es, clock, hb, _⟩, _⟩ := h
  exact ⟨es, clock, hb⟩

theorem MapIs.of_block {w w' : World} {k : TypeId} {b n : Nat} {f : Lit → Option Value} (h : MapIs w k b n f) (e : w'.heap[b]? = w.heap[b]?) : MapIs w' k b n f := by
  obtain ⟨D, ⟨es, clock, hb, r⟩, hf⟩ := h
  exact ⟨D, ⟨es, clock, e.trans hb, r⟩, hf⟩

theorem MapIs.mono {w : World} {k : TypeId} {b n n' : Nat} {f : Lit → Option Value} (h : MapIs w k b n f) (hn : n ≤ n') : MapIs w k b n' f := by
  obtain ⟨D, ho, hf⟩ := h
  exact ⟨D, ho.mono hn, hf⟩

theorem MapIs.look {w : World} {k e t : TypeId} {b n : Nat} {f : Lit → Option Value} (h : MapIs w k b n f) (K : Keyed Try.prog k) (ht : Try.prog.underlying t = some (.map k e)) {z : Value} (hz : (zeroValue e).run Try.prog w = .ok z w)
    {key : Value} {kl : Lit} (hkey : keyOf Try.prog k key = some kl) : (Instr.lookup t (.map (some b)) key false).run Try.prog w = .ok ((f kl).getD z) w := by
  obtain ⟨D, ho, hf⟩ := h
  obtain ⟨v, ps, hrun, hv⟩ := ho.lookup K ht hz (zd := .held z) (zp := []) rfl hkey
  rw [(hf kl).2 z] at hv
  simp only [rawElem, Option.some.injEq, Prod.mk.injEq, DataW.held.injEq] at hv
  rw [hrun, hv.1]

theorem MapIs.look_ok {w : World} {k e t : TypeId} {b n : Nat} {f : Lit → Option Value} (h : MapIs w k b n f) (K : Keyed Try.prog k) (ht : Try.prog.underlying t = some (.map k e)) {z : Value} (hz : (zeroValue e).run Try.prog w = .ok z w)
    {key : Value} {kl : Lit} (hkey : keyOf Try.prog k key = some kl) : (Instr.lookup t (.map (some b)) key true).run Try.prog w = .ok (.tuple #[(f kl).getD z, .bool (f kl).isSome]) w := by
  obtain ⟨D, ho, hf⟩ := h
  obtain ⟨v, ps, hrun, hv⟩ := ho.look_ok K ht hz (zd := .held z) (zp := []) rfl hkey
  rw [(hf kl).2 z] at hv
  simp only [rawElem, Option.some.injEq, Prod.mk.injEq, DataW.held.injEq] at hv
  rw [hrun, hv.1, (hf kl).1]

theorem MapIs.store {w : World} {k e t : TypeId} {b n : Nat} {f : Lit → Option Value} (h : MapIs w k b n f) (K : Keyed Try.prog k) (ht : Try.prog.underlying t = some (.map k e)) (hn : n < maxLen)
    {key val : Value} {kl : Lit} (hkey : keyOf Try.prog k key = some kl) (f' : Lit → Option Value) (hsame : f' kl = some val) (hother : ∀ l, l ≠ kl → f' l = f l) :
    ∃ w', (Instr.mapUpdate t (.map (some b)) key val).run Try.prog w = .ok () w' ∧ MapIs w' k b (n + 1) f' ∧ w.mapTurned w' b := by
  obtain ⟨D, ho, hf⟩ := h
  obtain ⟨w', hrun, ho', ht'⟩ := ho.store K ht hn hkey (val := val) (d := .held val) (ps := []) rfl
  refine ⟨w', hrun, ⟨_, ho', fun l => ?_⟩, ht'⟩
  have hk := K.key hkey
  by_cases e : l = kl
  · subst e
    rw [hsame]
    exact ⟨Maps.has_put_same ho.isMap hk _, fun z => Maps.atKey_put_same ho.isMap hk _ _⟩
  · rw [hother l e]
    exact ⟨(Maps.has_put_other e _).trans (hf l).1, fun z => (Maps.atKey_put_other e _ _).trans ((hf l).2 z)⟩

theorem law9 : Keyed Try.prog 9 := Maps.string_keyed Try.underlying9
theorem law23 : Keyed Try.prog 23 := Maps.int_keyed Try.underlying23

end Go.Proofs.Qxb6626901a
