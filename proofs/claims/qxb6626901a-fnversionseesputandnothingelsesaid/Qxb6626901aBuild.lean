/-
  Seat b6626901a: 'zzBuild' (8).
-/
import Derived.Test.Qxb6626901aNew
namespace Go.Proofs.Qxb6626901a
open Go.RowKit
set_option linter.unusedSimpArgs false
set_option linter.unusedVariables false

/-- What a script of puts makes. -/
def content (L : List Ob) : List UInt8 → Int → Option (Option (List Int)) := L.foldl (fun f x => putF f x.key.data.toList x.ver x.val) (fun _ _ => none)

theorem content_snoc {L : List Ob} {k : Nat} {x : Ob} (hx : L[k]? = some x) : content (L.take (k + 1)) = putF (content (L.take k)) x.key.data.toList x.ver x.val := by
  rw [List.take_add_one, hx]
  simp [content, List.foldl_append]

theorem si_new (w : World) : SI ((w.alloc (.map #[] 0)).alloc (.cells (storeCells w.heap.size) 60)) w.heap.size (w.heap.size + 1) 0 w.heap.size (fun _ => none) (content []) := by
  have hk : keysFn (fun _ => none) = fun _ => none := by funext l; unfold keysFn; split <;> rfl
  refine ⟨⟨storeCells w.heap.size, 0, ?_, by kernel_rfl, by kernel_rfl, by kernel_rfl, by kernel_rfl, by kernel_rfl, by kernel_rfl⟩, Nat.le_succ _, Nat.le_refl _, ?_, fun k p m h => (nomatch h), fun _ _ _ => rfl, fun k k' p m p' m' h => (nomatch h)⟩
  · have h := heap_alloc_new (w.alloc (.map #[] 0)) (.cells (storeCells w.heap.size) 60)
    simpa using h
  · rw [hk]
    exact (MapIs.made w 9).of_block (Below.heap_alloc _ _ _ (by simp))

/-- The numbers of the script are numbers of their kinds. -/
def Wf (L : List Ob) : Prop := ∀ x ∈ L, (Lit.int .u64 x.ver).wf = true

def BuildPost (w : World) (L : List Ob) (e : Ending) (w' : World) : Prop :=
  e = .returned (.pointer (some ⟨w.heap.size + 1, 0, none⟩)) ∧ (∃ vs, SI w' w.heap.size (w.heap.size + 1) (2 * L.length) w.heap.size vs (content L)) ∧ Below w.heap.size w w'

set_option maxHeartbeats 1000000 in
theorem build8 (w : World) (a : Option Addr) (cap : Nat) (L : List Ob) (hR : Rows3 w a L) (hL : L.length ≤ 1048576) (hS : Small L) (hW : Wf L) :
    Calls Try.prog 8 #[.slice a L.length cap] w (BuildPost w L) := by
  go_enter Try.func8, Try.ntmps8
  go_wp2_with fail
  refine (walk15 w).mono ?_
  rintro e w0 ⟨rfl, hw0⟩
  have H0 : Hid (∃ vs, SI w0 w.heap.size (w.heap.size + 1) (2 * 0) w.heap.size vs (content (L.take 0)) ∧ Below w.heap.size w w0) := by
    subst hw0
    exact ⟨_, si_new w, ((Below.refl _ _).alloc (Nat.le_refl _) _).alloc (by simp) _⟩
  clear hw0
  go_wp2_with fail
  go_loopw [4] (fun i wr => ∃ k : Nat, k ≤ L.length ∧ i = .int .i64 k ∧ Hid (∃ vs, SI wr w.heap.size (w.heap.size + 1) (2 * k) w.heap.size vs (content (L.take k)) ∧ Below w.heap.size w wr)) (fun i _ => L.length - (intOf i).toNat)
  case atStart => exact ⟨0, Nat.zero_le _, rfl, H0⟩
  case round =>
    obtain ⟨k, hk, rfl, hC⟩ := hrel
    clear H0
    by_cases hlt : k < L.length
    · obtain ⟨b, off, rfl, hc⟩ := hR (by omega)
      obtain ⟨x, hx⟩ : ∃ x, L[k]? = some x := ⟨_, List.getElem?_eq_getElem hlt⟩
      obtain ⟨vs, hSI, hbel⟩ := hC.out
      obtain ⟨c0, c1, v, c2, hv⟩ := (hc k x hx).below hbel
      obtain ⟨s1, s2⟩ := hS x (List.mem_of_getElem? hx)
      have hwf : Hid ((Lit.int .u64 x.ver).wf = true) := hW x (List.mem_of_getElem? hx)
      have hlt' : (k : Int) < (L.length : Int) := by omega
      have HX : Hid (L[k]? = some x) := hx
      have hbw : b < w.heap.size := World.block_lt_of_cell? w _ (hc k x hx).1
      have HV : Hid (Bytes wr v x.val) := hv
      have hbase := hbel.size
      have hks : x.key.size ≤ maxLen := by unfold maxLen; omega
      have hnm : 2 * k + 1 < maxLen := by unfold maxLen; omega
      have Hks : Hid (x.key.size ≤ maxLen) := hks
      have Hnm : Hid (2 * k + 1 < maxLen) := hnm
      clear hx hc hv hC hks hnm hR
      go_wp2
      go_region_held3 (fun u => u.cell? ⟨b, off + k * 3, none⟩ = some (.string x.key) ∧ u.cell? ⟨b, off + k * 3 + 1, none⟩ = some (.int .u64 x.ver) ∧ u.cell? ⟨b, off + k * 3 + 2, none⟩ = some v)
        (first | go_keep | (go_split_ands; refine ⟨?_, ?_, ?_⟩ <;> first | assumption | simp [*]))
        (first
          | (go_at_call 12; refine (clone_shape _ _ x.val (by exact HV.out) s2).mono ?_; rintro e w1 ⟨av, cv, rfl, hown, hb1⟩; have h0 := below_cells hb1 (by exact c0); have h1 := below_cells hb1 (by exact c1); have h2 := below_cells hb1 (by exact c2))
          | (go_at_call 13; refine (put13 (hSI.below (below_undrew hb1) hbase) (Nat.le_trans hbase (below_undrew hb1).size) Hks.out hwf.out Hnm.out (hown.mono hbase)).mono ?_; rintro e w2 ⟨rfl, hP, hK⟩; have g0 := (hK.below.cell (p := ⟨b, off + k * 3, none⟩) hbw).trans h0; have g1 := (hK.below.cell (p := ⟨b, off + k * 3 + 1, none⟩) hbw).trans h1; have g2 := (hK.below.cell (p := ⟨b, off + k * 3 + 2, none⟩) hbw).trans h2))
      have HR : Hid (∃ vs, SI w2 w.heap.size (w.heap.size + 1) (2 * (k + 1)) w.heap.size vs (content (L.take (k + 1))) ∧ Below w.heap.size w w2) := by
        obtain ⟨vs', hSI'⟩ := hP
        rw [← content_snoc HX.out] at hSI'
        exact ⟨vs', hSI', hbel.trans ((below_undrew hb1).mono hbase |>.trans hK.below)⟩
      clear h0 h1 h2 g0 g1 g2 hP hK hb1 hown hSI hbel
      go_wp2
      go_roundw
      case rel => exact ⟨k + 1, by omega, by go_num, HR⟩
      case measure => simp [intOf]; omega
    · have hke : k = L.length := by omega
      subst hke
      clear hR
      go_wp2
      go_ret
      obtain ⟨vs, hSI, hbel⟩ := hC.out
      rw [List.take_length] at hSI
      exact ⟨rfl, ⟨vs, hSI⟩, hbel⟩

end Go.Proofs.Qxb6626901a
