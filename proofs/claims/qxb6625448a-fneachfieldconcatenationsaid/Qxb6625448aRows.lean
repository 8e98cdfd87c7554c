/-
  No cell of these rows narrows 'for every input' (looked for: loops, veiled, ifaces, maps, wideKeys, modest, calm, conditions, laid).
  DERIVED. THE GIVEN ROWS OF THIS SEAT. 2 by the template 'for every input the law returns true; each argument reads behind the call as it read before'; 0 by the template 'total and deterministic' (their statements: Qxb6625448aTotals.lean).
  GIVEN WITH THE SEED: the statements are not yours to turn. If you find one false, say at which input.
  Laid BY PROGRAM, IN A SANDBOX (cutbox-rows.mjs): the forced cells as the released guide's own fill.sh prints them over the translation b46a7e689cdedc34… (all of the seat's roots in one cut). By AI agents, Wed Nov 11 2026. No macro, syntax, notation, axiom, sorry.
-/
import Derived.Test.Qxb6625448aChecked
import GoSem.Claim
import GoSem.ClaimJoined
import GoSem.ClaimMapViews
import Derived.JoinedTies
import Derived.KernelRfl
namespace Go.Proofs.Qxb6625448a
/- THE CELL 'sum', in the pinned program and in every row, IS THE sha256 OF THE DUMP (.gsa) THAT Qxb6625448aProg.lean LOADS. Nothing in Lean hashes anything: it is a label: what it is worth is what the hold of that sum in a sandbox is worth. -/
noncomputable def Try.pinned : Pinned := { name := "qxb6625448a", sum := "b46a7e689cdedc3497ab4d55e2755c6cbcd133eb09832519bfdbd0fa737afbae", checked := Try.checked }
namespace Rows
def none {H : Type} : Left H := { results := [], args := [] }

/-- 'zzlaws_otlpproto_b1.FnEachFieldMatchesGrammar': WHATEVER THE INPUT: true; the input reads as it did. -/
def fnEachFieldMatchesGrammarSpec : ChangeSpec := { name := "fnEachFieldMatchesGrammar", fn := fun _ => fun
  | [d] => { results := [.lit (.bool true)], args := [d] }
  | _ => none }
def fnEachFieldMatchesGrammarRow : OpenClaim := { program := "qxb6625448a", sum := "b46a7e689cdedc3497ab4d55e2755c6cbcd133eb09832519bfdbd0fa737afbae", func := "example.com/spanwright/spanwright/zzlaws_otlpproto_b1.FnEachFieldMatchesGrammar", spec := "fnEachFieldMatchesGrammar", unfollowed := true, recurses := true, apart := false }
def FnEachFieldMatchesGrammarSaid : Prop := fnEachFieldMatchesGrammarRow.holds Try.pinned (OpenSpec.ofChange fnEachFieldMatchesGrammarSpec)

/-- ITS FALSE NEIGHBOUR: 'it returns false'. Refute it at one input. -/
def fnEachFieldMatchesGrammarWrong : ChangeSpec := { name := "fnEachFieldMatchesGrammar", fn := fun _ => fun
  | [d] => { results := [.lit (.bool false)], args := [d] }
  | _ => none }
def FnEachFieldMatchesGrammarWrongFalsely : Prop := fnEachFieldMatchesGrammarRow.holds Try.pinned (OpenSpec.ofChange fnEachFieldMatchesGrammarWrong)

/-- 'zzlaws_otlpproto_b1.FnEachFieldConcatenation': WHATEVER THE INPUT: true; the input reads as it did. -/
def fnEachFieldConcatenationSpec : ChangeSpec := { name := "fnEachFieldConcatenation", fn := fun _ => fun
  | [d1, d2] => { results := [.lit (.bool true)], args := [d1, d2] }
  | _ => none }
def fnEachFieldConcatenationRow : OpenClaim := { program := "qxb6625448a", sum := "b46a7e689cdedc3497ab4d55e2755c6cbcd133eb09832519bfdbd0fa737afbae", func := "example.com/spanwright/spanwright/zzlaws_otlpproto_b1.FnEachFieldConcatenation", spec := "fnEachFieldConcatenation", unfollowed := true, recurses := true, apart := false }
def FnEachFieldConcatenationSaid : Prop := fnEachFieldConcatenationRow.holds Try.pinned (OpenSpec.ofChange fnEachFieldConcatenationSpec)

/-- ITS FALSE NEIGHBOUR: 'it returns false'. Refute it at one input. -/
def fnEachFieldConcatenationWrong : ChangeSpec := { name := "fnEachFieldConcatenation", fn := fun _ => fun
  | [d1, d2] => { results := [.lit (.bool false)], args := [d1, d2] }
  | _ => none }
def FnEachFieldConcatenationWrongFalsely : Prop := fnEachFieldConcatenationRow.holds Try.pinned (OpenSpec.ofChange fnEachFieldConcatenationWrong)

end Rows
end Go.Proofs.Qxb6625448a
