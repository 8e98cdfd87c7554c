/-
  DERIVED. GIVEN WITH THE SEED: THE CARDS: each row of Qxb6627195aDoorRows.lean that lists a variable, with what it lists TIED to the program's text (the seventh form; the later family's looks); each row that meets fmt, with fmt's text TOLD by the authors' own Lean function (tested against real Go, not proved from fmt's source: count such statements apart). THE CARD IS WHAT COUNTS. Prove the row's statement (the work); the ties are given (Qxb6627195aDoorTie.lean); close each card by the builder's one call (the guide's Derived/Test/ToyasCard.lean, 'card_holds'). Laid BY PROGRAM, IN A SANDBOX (cutbox-door.mjs). By AI agents, Wed Nov 11 2026. No macro, syntax, notation, axiom, sorry.
-/
import Derived.Test.Qxb6627195aDoorRows
import GoSem.ClaimSeven
namespace Go.Proofs.Qxb6627195aDoor
namespace Rows

/-- THE TIED CARD OF 'zzlaws_internal_cmdline_b1.FnAddressesStringJoinsAtAnyCut'. -/
def fnAddressesStringJoinsAtAnyCutCard : Claim7 := { stood := { row := fnAddressesStringJoinsAtAnyCutRow, standIns := [], harness := (true, "73b5312621ee8ff88437a9a9082304505b095805eb974cb3fd84eca359e7c5ac"), looks := false }, kinds := [], alts := [], laidByText := true, laidKinds := [.called, .called, .zero], laidTests := true, laidLooks := .later }
def FnAddressesStringJoinsAtAnyCutCardSaid : Prop := Claim7.holds Tryd.pinned (.plain (OpenSpec.ofChange fnAddressesStringJoinsAtAnyCutSpec)) fnAddressesStringJoinsAtAnyCutCard

/-- THE TIED CARD OF 'zzlaws_internal_cmdline_b1.FnAddressesStringReadsBackAndTellsApart'. -/
def fnAddressesStringReadsBackAndTellsApartCard : Claim7 := { stood := { row := fnAddressesStringReadsBackAndTellsApartRow, standIns := [], harness := (true, "73b5312621ee8ff88437a9a9082304505b095805eb974cb3fd84eca359e7c5ac"), looks := false }, kinds := [], alts := [], laidByText := true, laidKinds := [.called, .called, .zero], laidTests := true, laidLooks := .later }
def FnAddressesStringReadsBackAndTellsApartCardSaid : Prop := Claim7.holds Tryd.pinned (.plain (OpenSpec.ofChange fnAddressesStringReadsBackAndTellsApartSpec)) fnAddressesStringReadsBackAndTellsApartCard
end Rows
end Go.Proofs.Qxb6627195aDoor
