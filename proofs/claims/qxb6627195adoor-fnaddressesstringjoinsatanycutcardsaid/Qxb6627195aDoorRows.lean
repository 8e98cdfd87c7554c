/-
  NARROWER THAN 'FOR EVERY INPUT', by the rows' own cells (each row's printed sentence says how): FnAddressesStringJoinsAtAnyCut: laid · FnAddressesStringReadsBackAndTellsApart: laid.
  DERIVED. THE GIVEN ROWS OF THIS SEAT. 2 by the template 'for every input the law returns true; each argument reads behind the call as it read before'; 0 by the template 'total and deterministic' (their statements: Qxb6627195aDoorTotals.lean).
  GIVEN WITH THE SEED: the statements are not yours to turn. If you find one false, say at which input.
  Laid BY PROGRAM, IN A SANDBOX (cutbox-rows.mjs): the forced cells as the released guide's own fill.sh prints them over the translation 1ef4115fd5be8674… (all of the seat's roots in one cut). By AI agents, Wed Nov 11 2026. No macro, syntax, notation, axiom, sorry.
-/
import Derived.Test.Qxb6627195aDoorChecked
import GoSem.Claim
import GoSem.ClaimJoined
import GoSem.ClaimMapViews
import Derived.JoinedTies
import Derived.KernelRfl
namespace Go.Proofs.Qxb6627195aDoor
/- THE CELL 'sum', in the pinned program and in every row, IS THE sha256 OF THE DUMP (.gsa) THAT Qxb6627195aDoorProg.lean LOADS. Nothing in Lean hashes anything: it is a label: what it is worth is what the hold of that sum in a sandbox is worth. -/
noncomputable def Tryd.pinned : Pinned := { name := "qxb6627195adoor", sum := "1ef4115fd5be8674adc6a9b00e61bae4cd39c20b24131feec3e36931c69761ce", checked := Tryd.checked }
namespace Rows
def none {H : Type} : Left H := { results := [], args := [] }

/- WHAT THE LISTED PACKAGE-LEVEL VARIABLES READ AS WHEN THE CALL BEGINS. Each datum BY PROGRAM (the guide's laid-datum.mjs) off the statement by which the dump's own 'gosem.cut.vars' lays the variable. In a bare row this is a premise. The card (Qxb6627195aDoorCards.lean) ties it to the program's text. -/
def laid_net_netip_z4 {H : Type} : DataW H := .agg [.ptr (.agg [.lit (.bool false), .lit (.string [])])]
def laid_net_netip_z6noz {H : Type} : DataW H := .agg [.ptr (.agg [.lit (.bool true), .lit (.string [])])]
def laid_net_netip_z0 {H : Type} : DataW H := .agg [.nil]

/-- 'zzlaws_internal_cmdline_b1.FnAddressesStringJoinsAtAnyCut': WHATEVER THE INPUT: true; the input reads as it did. -/
def fnAddressesStringJoinsAtAnyCutSpec : ChangeSpec := { name := "fnAddressesStringJoinsAtAnyCut", fn := fun _ => fun
  | [d1, d2] => { results := [.lit (.bool true)], args := [d1, d2] }
  | _ => none }
def fnAddressesStringJoinsAtAnyCutRow : OpenClaim := { program := "qxb6627195adoor", sum := "1ef4115fd5be8674adc6a9b00e61bae4cd39c20b24131feec3e36931c69761ce", func := "example.com/rollcall/rollcall/zzlaws_internal_cmdline_b1.FnAddressesStringJoinsAtAnyCut", spec := "fnAddressesStringJoinsAtAnyCut", inPlace := ["internal/abi.NoEscape", "internal/bytealg.MakeNoZero"], named := ["net/netip.z4", "net/netip.z0", "net/netip.z6noz"], apart := false, laid := [("net/netip.z4", laid_net_netip_z4), ("net/netip.z6noz", laid_net_netip_z6noz), ("net/netip.z0", laid_net_netip_z0)] }
def FnAddressesStringJoinsAtAnyCutSaid : Prop := fnAddressesStringJoinsAtAnyCutRow.holds Tryd.pinned (OpenSpec.ofChange fnAddressesStringJoinsAtAnyCutSpec)

/-- ITS FALSE NEIGHBOUR: 'it returns false'. Refute it at one input. -/
def fnAddressesStringJoinsAtAnyCutWrong : ChangeSpec := { name := "fnAddressesStringJoinsAtAnyCut", fn := fun _ => fun
  | [d1, d2] => { results := [.lit (.bool false)], args := [d1, d2] }
  | _ => none }
def FnAddressesStringJoinsAtAnyCutWrongFalsely : Prop := fnAddressesStringJoinsAtAnyCutRow.holds Tryd.pinned (OpenSpec.ofChange fnAddressesStringJoinsAtAnyCutWrong)

/-- 'zzlaws_internal_cmdline_b1.FnAddressesStringReadsBackAndTellsApart': WHATEVER THE INPUT: true; the input reads as it did. -/
def fnAddressesStringReadsBackAndTellsApartSpec : ChangeSpec := { name := "fnAddressesStringReadsBackAndTellsApart", fn := fun _ => fun
  | [d1, d2] => { results := [.lit (.bool true)], args := [d1, d2] }
  | _ => none }
def fnAddressesStringReadsBackAndTellsApartRow : OpenClaim := { program := "qxb6627195adoor", sum := "1ef4115fd5be8674adc6a9b00e61bae4cd39c20b24131feec3e36931c69761ce", func := "example.com/rollcall/rollcall/zzlaws_internal_cmdline_b1.FnAddressesStringReadsBackAndTellsApart", spec := "fnAddressesStringReadsBackAndTellsApart", inPlace := ["internal/abi.NoEscape", "internal/bytealg.MakeNoZero"], named := ["net/netip.z4", "net/netip.z0", "net/netip.z6noz"], apart := false, laid := [("net/netip.z4", laid_net_netip_z4), ("net/netip.z6noz", laid_net_netip_z6noz), ("net/netip.z0", laid_net_netip_z0)] }
def FnAddressesStringReadsBackAndTellsApartSaid : Prop := fnAddressesStringReadsBackAndTellsApartRow.holds Tryd.pinned (OpenSpec.ofChange fnAddressesStringReadsBackAndTellsApartSpec)

/-- ITS FALSE NEIGHBOUR: 'it returns false'. Refute it at one input. -/
def fnAddressesStringReadsBackAndTellsApartWrong : ChangeSpec := { name := "fnAddressesStringReadsBackAndTellsApart", fn := fun _ => fun
  | [d1, d2] => { results := [.lit (.bool false)], args := [d1, d2] }
  | _ => none }
def FnAddressesStringReadsBackAndTellsApartWrongFalsely : Prop := fnAddressesStringReadsBackAndTellsApartRow.holds Tryd.pinned (OpenSpec.ofChange fnAddressesStringReadsBackAndTellsApartWrong)

end Rows
end Go.Proofs.Qxb6627195aDoor
