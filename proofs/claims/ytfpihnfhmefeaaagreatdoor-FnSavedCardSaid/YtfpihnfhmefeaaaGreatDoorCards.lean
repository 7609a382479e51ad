/-
  DERIVED. GIVEN WITH THE SEED: THE CARDS: each row of YtfpihnfhmefeaaaGreatDoorRows.lean that lists a variable, with what it lists TIED to the program's text (the seventh form; the later family's looks); each row that meets fmt, with fmt's text TOLD by the authors' own Lean function (tested against real Go, not proved from fmt's source: count such statements apart). THE CARD IS WHAT COUNTS. Prove the row's statement (the work); the ties are given (YtfpihnfhmefeaaaGreatDoorTie.lean); close each card by the builder's one call (the guide's Derived/Test/ToyasCard.lean, 'card_holds'). Laid BY PROGRAM, IN A SANDBOX (cutbox-door.mjs). By AI agents, Wed Nov 11 2026. No macro, syntax, notation, axiom, sorry.
-/
import Derived.Test.YtfpihnfhmefeaaaGreatDoorRows
import GoSem.ClaimSeven
namespace Go.Proofs.YtfpihnfhmefeaaaGreatDoor
namespace Rows

/-- THE TIED CARD OF 'laws.FnBehind'. -/
def fnBehindCard : Claim7 := { stood := { row := fnBehindRow, standIns := [], harness := (true, "4d9ea38cd86764850931f270694a7c1afe4cdfd7165becf7b1fe8aac4c6f0c7f"), looks := true }, kinds := [], alts := [], laidByText := true, laidKinds := [.sentinel, .sentinel, .sentinel, .data, .sentinel], laidTests := true, laidLooks := .later }
def FnBehindCardSaid : Prop := Claim7.holds Tryz.pinned (.plain (OpenSpec.ofChange fnBehindSpec)) fnBehindCard

/-- THE TIED CARD OF 'laws.FnSaved'. -/
def fnSavedCard : Claim7 := { stood := { row := fnSavedRow, standIns := [], harness := (true, "4d9ea38cd86764850931f270694a7c1afe4cdfd7165becf7b1fe8aac4c6f0c7f"), looks := true }, kinds := [], alts := [], laidByText := true, laidKinds := [.sentinel, .sentinel, .sentinel, .data, .sentinel], laidTests := true, laidLooks := .later }
def FnSavedCardSaid : Prop := Claim7.holds Tryz.pinned (.plain (OpenSpec.ofChange fnSavedSpec)) fnSavedCard

/-- THE TIED CARD OF 'laws.FnCut'. -/
def fnCutCard : Claim7 := { stood := { row := fnCutRow, standIns := [], harness := (true, "4d9ea38cd86764850931f270694a7c1afe4cdfd7165becf7b1fe8aac4c6f0c7f"), looks := true }, kinds := [], alts := [], laidByText := true, laidKinds := [.sentinel, .sentinel, .sentinel, .data, .sentinel], laidTests := true, laidLooks := .later }
def FnCutCardSaid : Prop := Claim7.holds Tryz.pinned (.plain (OpenSpec.ofChange fnCutSpec)) fnCutCard

/-- THE SECOND FORM's CARD OF 'laws.FnBehind'. -/
def fnBehindUptoCard : Claim7 := { stood := { row := fnBehindUptoRow, standIns := [], harness := (true, "4d9ea38cd86764850931f270694a7c1afe4cdfd7165becf7b1fe8aac4c6f0c7f"), looks := true }, kinds := [], alts := [], laidByText := true, laidKinds := [.sentinel, .sentinel, .sentinel, .data, .sentinel], laidTests := true, laidLooks := .later }
def FnBehindUptoCardSaid : Prop := Claim7.holds Tryz.pinned (.plain (OpenSpec.upto fnBehindSpec)) fnBehindUptoCard

/-- THE SECOND FORM's CARD OF 'laws.FnSaved'. -/
def fnSavedUptoCard : Claim7 := { stood := { row := fnSavedUptoRow, standIns := [], harness := (true, "4d9ea38cd86764850931f270694a7c1afe4cdfd7165becf7b1fe8aac4c6f0c7f"), looks := true }, kinds := [], alts := [], laidByText := true, laidKinds := [.sentinel, .sentinel, .sentinel, .data, .sentinel], laidTests := true, laidLooks := .later }
def FnSavedUptoCardSaid : Prop := Claim7.holds Tryz.pinned (.plain (OpenSpec.upto fnSavedSpec)) fnSavedUptoCard

/-- THE SECOND FORM's CARD OF 'laws.FnCut'. -/
def fnCutUptoCard : Claim7 := { stood := { row := fnCutUptoRow, standIns := [], harness := (true, "4d9ea38cd86764850931f270694a7c1afe4cdfd7165becf7b1fe8aac4c6f0c7f"), looks := true }, kinds := [], alts := [], laidByText := true, laidKinds := [.sentinel, .sentinel, .sentinel, .data, .sentinel], laidTests := true, laidLooks := .later }
def FnCutUptoCardSaid : Prop := Claim7.holds Tryz.pinned (.plain (OpenSpec.upto fnCutSpec)) fnCutUptoCard
end Rows
end Go.Proofs.YtfpihnfhmefeaaaGreatDoor
