/-
  Seat b6627195aD: strings.Join's contract of the shelf, laid at this translation in plain words (by the shelf's own program; only Join's laying kept).
-/
import Derived.Shelf.Strings.OnBuilder
import Derived.Test.Qxb6627195aDoorProg
namespace Go.Proofs
open Go.Shelf
def Tryd.lays156_ren : Go.Shelf.Ren := ⟨fun | 156 => 14 | 165 => 21 | 166 => 22 | 169 => 23 | 240 => 31 | 241 => 32 | 276 => 35 | 277 => 36 | n => n, fun | 31 => 41 | 9 => 9 | 3 => 3 | 4 => 4 | 0 => 0 | 20 => 20 | 72 => 50 | 76 => 54 | 70 => 48 | 37 => 43 | 75 => 53 | 127 => 61 | 164 => 68 | 5 => 5 | 80 => 27 | n => n, fun | n => n⟩
theorem Tryd.lays156 : Go.Proofs.Lays.n156 Tryd.prog Tryd.lays156_ren := {
  mixed := by kernel_rfl
  f156 := Tryd.func14.trans (congrArg some (by kernel_rfl))
  f165 := Tryd.func21.trans (congrArg some (by kernel_rfl))
  f166 := Tryd.func22.trans (congrArg some (by kernel_rfl))
  f169 := Tryd.func23.trans (congrArg some (by kernel_rfl))
  f240 := Tryd.func31.trans (congrArg some (by kernel_rfl))
  f241 := Tryd.func32.trans (congrArg some (by kernel_rfl))
  f276 := Tryd.func35.trans (congrArg some (by kernel_rfl))
  f277 := Tryd.func36.trans (congrArg some (by kernel_rfl))
  t0 := Tryd.underlying0
  a0 := Tryd.isAgg0
  z0 := Tryd.sizeOf0
  v0 := Tryd.zeroValue0
  t3 := Tryd.underlying3
  a3 := Tryd.isAgg3
  z3 := Tryd.sizeOf3
  v3 := Tryd.zeroValue3
  t4 := Tryd.underlying4
  a4 := Tryd.isAgg4
  z4 := Tryd.sizeOf4
  v4 := Tryd.zeroValue4
  t9 := Tryd.underlying9
  a9 := Tryd.isAgg9
  z9 := Tryd.sizeOf9
  v9 := Tryd.zeroValue9
  t20 := Tryd.underlying20
  a20 := Tryd.isAgg20
  z20 := Tryd.sizeOf20
  v20 := Tryd.zeroValue20
  t31 := Tryd.underlying41
  a31 := Tryd.isAgg41
  z31 := Tryd.sizeOf41
  v31 := Tryd.zeroValue41
  t37 := Tryd.underlying43
  a37 := Tryd.isAgg43
  z37 := Tryd.sizeOf43
  v37 := Tryd.zeroValue43
  t70 := Tryd.underlying48
  a70 := Tryd.isAgg48
  z70 := Tryd.sizeOf48
  v70 := Tryd.zeroValue48
  t72 := Tryd.underlying50
  a72 := Tryd.isAgg50
  z72 := Tryd.sizeOf50
  v72 := Tryd.zeroValue50
  t75 := Tryd.underlying53
  a75 := Tryd.isAgg53
  z75 := Tryd.sizeOf53
  v75 := Tryd.zeroValue53
  t76 := Tryd.underlying54
  a76 := Tryd.isAgg54
  z76 := Tryd.sizeOf54
  v76 := Tryd.zeroValue54
  t127 := Tryd.underlying61
  a127 := Tryd.isAgg61
  z127 := Tryd.sizeOf61
  v127 := Tryd.zeroValue61
  t164 := Tryd.underlying68
  a164 := Tryd.isAgg68
  z164 := Tryd.sizeOf68
  v164 := Tryd.zeroValue68 }
theorem Tryd.Builder_Extra_156 : Builder.Extra Tryd.prog Tryd.lays156_ren := {
  sizeBuilder := by kernel_rfl
  liesBuilder := by kernel_rfl
  t5 := Tryd.underlying5
  a5 := Tryd.isAgg5
  z5 := Tryd.sizeOf5
  v5 := Tryd.zeroValue5
  infoByte := by kernel_rfl
  cellsByte := by kernel_rfl
  sizeByte := by kernel_rfl
  neB5 := by decide }
open Go.RowKit in
/-- No element. -/
theorem Tryd.strings_Join_none (a : Option Addr) (c : Nat) (sep : ByteArray) (w : World) :
    Calls Tryd.prog 14 #[.slice a 0 c, .string sep] w fun e w' => e = .returned (.string ⟨#[]⟩) ∧ w' = w := Any.strings_Join_none Tryd.lays156 Tryd.Builder_Extra_156 a c sep w
open Go.RowKit in
/-- Any number of elements. -/
theorem Tryd.strings_Join (bk o c : Nat) (xs : List ByteArray) (sep : ByteArray) (w : World) (hcells : ∀ (j : Nat) x, xs[j]? = some x → w.cell? ⟨bk, o + j, none⟩ = some (.string x)) (hbk : bk < w.heap.size) (hN : xs.length ≤ 140737488355328) (hcap : xs.length ≤ c) (hlen : (Lib.join (xs.map (·.data.toList)) sep.data.toList).length ≤ 140737488355328) :
    Calls Tryd.prog 14 #[.slice (some ⟨bk, o, none⟩) xs.length c, .string sep] w fun e w' => e = .returned (.string ⟨(Lib.join (xs.map (·.data.toList)) sep.data.toList).toArray⟩) ∧ Below w.heap.size w w' := Any.strings_Join Tryd.lays156 Tryd.Builder_Extra_156 bk o c xs sep w hcells hbk hN hcap hlen
end Go.Proofs
