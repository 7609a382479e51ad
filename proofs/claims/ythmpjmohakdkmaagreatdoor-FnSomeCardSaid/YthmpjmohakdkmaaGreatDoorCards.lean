/-
  DERIVED. GIVEN WITH THE SEED: THE CARDS: each row of YthmpjmohakdkmaaGreatDoorRows.lean that lists a variable, with what it lists TIED to the program's text (the seventh form; the later family's looks); each row that meets fmt, with fmt's text TOLD by the authors' own Lean function (tested against real Go, not proved from fmt's source: count such statements apart). THE CARD IS WHAT COUNTS. Prove the row's statement (the work); the ties are given (YthmpjmohakdkmaaGreatDoorTie.lean); close each card by the builder's one call (the guide's Derived/Test/ToyasCard.lean, 'card_holds'). Laid BY PROGRAM, IN A SANDBOX (cutbox-door.mjs). By AI agents, Wed Nov 11 2026. No macro, syntax, notation, axiom, sorry.
-/
import Derived.Test.YthmpjmohakdkmaaGreatDoorRows
import GoSem.ClaimSeven
namespace Go.Proofs.YthmpjmohakdkmaaGreatDoor
namespace Rows

/-- THE TIED CARD OF 'laws.FnSome'. -/
def fnSomeCard : Claim7 := { stood := { row := fnSomeRow, standIns := [], harness := (true, "0cadac0219767e453385497cb526c99031361bce5e7ded897b739c30d282254b"), looks := false }, kinds := [], alts := [], laidByText := true, laidKinds := [.data], laidTests := true, laidLooks := .later }
def FnSomeCardSaid : Prop := Claim7.holds Tryz.pinned (.plain (OpenSpec.ofChange fnSomeSpec)) fnSomeCard

/-- THE TIED CARD OF 'laws.FnLookup'. -/
def fnLookupCard : Claim7 := { stood := { row := fnLookupRow, standIns := [], harness := (true, "0cadac0219767e453385497cb526c99031361bce5e7ded897b739c30d282254b"), looks := false }, kinds := [], alts := [], laidByText := true, laidKinds := [.data], laidTests := true, laidLooks := .later }
def FnLookupCardSaid : Prop := Claim7.holds Tryz.pinned (.plain (OpenSpec.ofChange fnLookupSpec)) fnLookupCard

/-- THE SECOND FORM's CARD OF 'laws.FnSome'. -/
def fnSomeUptoCard : Claim7 := { stood := { row := fnSomeUptoRow, standIns := [], harness := (true, "0cadac0219767e453385497cb526c99031361bce5e7ded897b739c30d282254b"), looks := false }, kinds := [], alts := [], laidByText := true, laidKinds := [.data], laidTests := true, laidLooks := .later }
def FnSomeUptoCardSaid : Prop := Claim7.holds Tryz.pinned (.plain (OpenSpec.upto fnSomeSpec)) fnSomeUptoCard

/-- THE SECOND FORM's CARD OF 'laws.FnLookup'. -/
def fnLookupUptoCard : Claim7 := { stood := { row := fnLookupUptoRow, standIns := [], harness := (true, "0cadac0219767e453385497cb526c99031361bce5e7ded897b739c30d282254b"), looks := false }, kinds := [], alts := [], laidByText := true, laidKinds := [.data], laidTests := true, laidLooks := .later }
def FnLookupUptoCardSaid : Prop := Claim7.holds Tryz.pinned (.plain (OpenSpec.upto fnLookupSpec)) fnLookupUptoCard
end Rows
end Go.Proofs.YthmpjmohakdkmaaGreatDoor
