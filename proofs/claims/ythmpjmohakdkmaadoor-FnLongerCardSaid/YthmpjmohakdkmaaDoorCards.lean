/-
  DERIVED. GIVEN WITH THE SEED: THE CARDS: each row of YthmpjmohakdkmaaDoorRows.lean that lists a variable, with what it lists TIED to the program's text (the seventh form; the later family's looks); each row that meets fmt, with fmt's text TOLD by the authors' own Lean function (tested against real Go, not proved from fmt's source: count such statements apart). THE CARD IS WHAT COUNTS. Prove the row's statement (the work); the ties are given (YthmpjmohakdkmaaDoorTie.lean); close each card by the builder's one call (the guide's Derived/Test/ToyasCard.lean, 'card_holds'). Laid BY PROGRAM, IN A SANDBOX (cutbox-door.mjs). By AI agents, Wed Nov 11 2026. No macro, syntax, notation, axiom, sorry.
-/
import Derived.Test.YthmpjmohakdkmaaDoorRows
import GoSem.ClaimSeven
namespace Go.Proofs.YthmpjmohakdkmaaDoor
namespace Rows

/-- THE TIED CARD OF 'laws.FnBytes'. -/
def fnBytesCard : Claim7 := { stood := { row := fnBytesRow, standIns := [], harness := (true, "23b2e44c742cdf39c1082e21e10ee1e70e472baf06a3d89d2cb5f02dad85cf25"), looks := false }, kinds := [], alts := [], laidByText := true, laidKinds := [.data], laidTests := true, laidLooks := .later }
def FnBytesCardSaid : Prop := Claim7.holds Tryd.pinned (.plain (OpenSpec.ofChange fnBytesSpec)) fnBytesCard

/-- THE TIED CARD OF 'laws.FnEvery'. -/
def fnEveryCard : Claim7 := { stood := { row := fnEveryRow, standIns := [], harness := (true, "23b2e44c742cdf39c1082e21e10ee1e70e472baf06a3d89d2cb5f02dad85cf25"), looks := false }, kinds := [], alts := [], laidByText := true, laidKinds := [.data], laidTests := true, laidLooks := .later }
def FnEveryCardSaid : Prop := Claim7.holds Tryd.pinned (.plain (OpenSpec.ofChange fnEverySpec)) fnEveryCard

/-- THE TIED CARD OF 'laws.FnLonger'. -/
def fnLongerCard : Claim7 := { stood := { row := fnLongerRow, standIns := [], harness := (true, "23b2e44c742cdf39c1082e21e10ee1e70e472baf06a3d89d2cb5f02dad85cf25"), looks := false }, kinds := [], alts := [], laidByText := true, laidKinds := [.data], laidTests := true, laidLooks := .later }
def FnLongerCardSaid : Prop := Claim7.holds Tryd.pinned (.plain (OpenSpec.ofChange fnLongerSpec)) fnLongerCard

/-- THE SECOND FORM's CARD OF 'laws.FnBytes'. -/
def fnBytesUptoCard : Claim7 := { stood := { row := fnBytesUptoRow, standIns := [], harness := (true, "23b2e44c742cdf39c1082e21e10ee1e70e472baf06a3d89d2cb5f02dad85cf25"), looks := false }, kinds := [], alts := [], laidByText := true, laidKinds := [.data], laidTests := true, laidLooks := .later }
def FnBytesUptoCardSaid : Prop := Claim7.holds Tryd.pinned (.plain (OpenSpec.upto fnBytesSpec)) fnBytesUptoCard

/-- THE SECOND FORM's CARD OF 'laws.FnEvery'. -/
def fnEveryUptoCard : Claim7 := { stood := { row := fnEveryUptoRow, standIns := [], harness := (true, "23b2e44c742cdf39c1082e21e10ee1e70e472baf06a3d89d2cb5f02dad85cf25"), looks := false }, kinds := [], alts := [], laidByText := true, laidKinds := [.data], laidTests := true, laidLooks := .later }
def FnEveryUptoCardSaid : Prop := Claim7.holds Tryd.pinned (.plain (OpenSpec.upto fnEverySpec)) fnEveryUptoCard

/-- THE SECOND FORM's CARD OF 'laws.FnLonger'. -/
def fnLongerUptoCard : Claim7 := { stood := { row := fnLongerUptoRow, standIns := [], harness := (true, "23b2e44c742cdf39c1082e21e10ee1e70e472baf06a3d89d2cb5f02dad85cf25"), looks := false }, kinds := [], alts := [], laidByText := true, laidKinds := [.data], laidTests := true, laidLooks := .later }
def FnLongerUptoCardSaid : Prop := Claim7.holds Tryd.pinned (.plain (OpenSpec.upto fnLongerSpec)) fnLongerUptoCard
end Rows
end Go.Proofs.YthmpjmohakdkmaaDoor
