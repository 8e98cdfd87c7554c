/-
  No cell of these rows narrows 'for every input' (looked for: loops, veiled, ifaces, maps, wideKeys, modest, calm, conditions, laid).
  DERIVED. THE GIVEN ROWS OF THIS SEAT. 2 by the template 'for every input the law returns true; each argument reads behind the call as it read before'; 0 by the template 'total and deterministic' (their statements: Qxb6625644aTotals.lean).
  GIVEN WITH THE SEED: the statements are not yours to turn. If you find one false, say at which input.
  Laid BY PROGRAM, IN A SANDBOX (cutbox-rows.mjs): the forced cells as the released guide's own fill.sh prints them over the translation 989263bcfa5c7002… (all of the seat's roots in one cut). By AI agents, Wed Nov 11 2026. No macro, syntax, notation, axiom, sorry.
-/
import Derived.Test.Qxb6625644aChecked
import GoSem.Claim
import GoSem.ClaimJoined
import GoSem.ClaimMapViews
import Derived.JoinedTies
import Derived.KernelRfl
namespace Go.Proofs.Qxb6625644a
/- THE CELL 'sum', in the pinned program and in every row, IS THE sha256 OF THE DUMP (.gsa) THAT Qxb6625644aProg.lean LOADS. Nothing in Lean hashes anything: it is a label: what it is worth is what the hold of that sum in a sandbox is worth. -/
noncomputable def Try.pinned : Pinned := { name := "qxb6625644a", sum := "989263bcfa5c70024daa8539e88a05fb7ba4d7dd0f0c31df3f5cc339bac7f446", checked := Try.checked }
namespace Rows
def none {H : Type} : Left H := { results := [], args := [] }

/-- 'zzlaws_internal_depgraph_b1.FnPathExtendsParentsPath': WHATEVER THE INPUT: true; the input reads as it did. -/
def fnPathExtendsParentsPathSpec : ChangeSpec := { name := "fnPathExtendsParentsPath", fn := fun _ => fun
  | [d1, d2] => { results := [.lit (.bool true)], args := [d1, d2] }
  | _ => none }
def fnPathExtendsParentsPathRow : OpenClaim := { program := "qxb6625644a", sum := "989263bcfa5c70024daa8539e88a05fb7ba4d7dd0f0c31df3f5cc339bac7f446", func := "example.com/rowverse/rowverse/zzlaws_internal_depgraph_b1.FnPathExtendsParentsPath", spec := "fnPathExtendsParentsPath", apart := false }
def FnPathExtendsParentsPathSaid : Prop := fnPathExtendsParentsPathRow.holds Try.pinned (OpenSpec.ofChange fnPathExtendsParentsPathSpec)

/-- ITS FALSE NEIGHBOUR: 'it returns false'. Refute it at one input. -/
def fnPathExtendsParentsPathWrong : ChangeSpec := { name := "fnPathExtendsParentsPath", fn := fun _ => fun
  | [d1, d2] => { results := [.lit (.bool false)], args := [d1, d2] }
  | _ => none }
def FnPathExtendsParentsPathWrongFalsely : Prop := fnPathExtendsParentsPathRow.holds Try.pinned (OpenSpec.ofChange fnPathExtendsParentsPathWrong)

/-- 'zzlaws_internal_depgraph_b1.FnPathEveryPrefixIsAPath': WHATEVER THE INPUT: true; the input reads as it did. -/
def fnPathEveryPrefixIsAPathSpec : ChangeSpec := { name := "fnPathEveryPrefixIsAPath", fn := fun _ => fun
  | [d1, d2] => { results := [.lit (.bool true)], args := [d1, d2] }
  | _ => none }
def fnPathEveryPrefixIsAPathRow : OpenClaim := { program := "qxb6625644a", sum := "989263bcfa5c70024daa8539e88a05fb7ba4d7dd0f0c31df3f5cc339bac7f446", func := "example.com/rowverse/rowverse/zzlaws_internal_depgraph_b1.FnPathEveryPrefixIsAPath", spec := "fnPathEveryPrefixIsAPath", apart := false }
def FnPathEveryPrefixIsAPathSaid : Prop := fnPathEveryPrefixIsAPathRow.holds Try.pinned (OpenSpec.ofChange fnPathEveryPrefixIsAPathSpec)

/-- ITS FALSE NEIGHBOUR: 'it returns false'. Refute it at one input. -/
def fnPathEveryPrefixIsAPathWrong : ChangeSpec := { name := "fnPathEveryPrefixIsAPath", fn := fun _ => fun
  | [d1, d2] => { results := [.lit (.bool false)], args := [d1, d2] }
  | _ => none }
def FnPathEveryPrefixIsAPathWrongFalsely : Prop := fnPathEveryPrefixIsAPathRow.holds Try.pinned (OpenSpec.ofChange fnPathEveryPrefixIsAPathWrong)

end Rows
end Go.Proofs.Qxb6625644a
