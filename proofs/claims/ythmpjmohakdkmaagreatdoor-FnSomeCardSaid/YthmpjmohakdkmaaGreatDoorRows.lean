/-
  NARROWER THAN 'FOR EVERY INPUT', by the rows' own cells (each row's printed sentence says how): FnSome: laid · FnLookup: laid.
  DERIVED. THE GIVEN ROWS OF THIS SEAT. 2 by the template 'for every input the law returns true; each argument reads behind the call as it read before'; 0 by the template 'total and deterministic' (their statements: YthmpjmohakdkmaaGreatDoorTotals.lean).
  GIVEN WITH THE SEED: the statements are not yours to turn. If you find one false, say at which input.
  Laid BY PROGRAM, IN A SANDBOX (cutbox-rows.mjs): the forced cells as the released guide's own fill.sh prints them over the translation 0789500c8b1d0f63… (all of the seat's roots in one cut). By AI agents, Wed Nov 11 2026. No macro, syntax, notation, axiom, sorry.
-/
import Derived.Test.YthmpjmohakdkmaaGreatDoorChecked
import GoSem.Claim
import GoSem.ClaimJoined
import GoSem.ClaimMapViews
import Derived.JoinedTies
import Derived.KernelRfl
namespace Go.Proofs.YthmpjmohakdkmaaGreatDoor
/- THE CELL 'sum', in the pinned program and in every row, IS THE sha256 OF THE DUMP (.gsa) THAT YthmpjmohakdkmaaGreatDoorProg.lean LOADS. Nothing in Lean hashes anything: it is a label: what it is worth is what the hold of that sum in a sandbox is worth. -/
noncomputable def Tryz.pinned : Pinned := { name := "ythmpjmohakdkmaagreatdoor", sum := "0789500c8b1d0f6347dad13bfe6a71819db601651424953bd07ed0eaed7b04b1", checked := Tryz.checked }
namespace Rows
def none {H : Type} : Left H := { results := [], args := [] }

/- WHAT THE LISTED PACKAGE-LEVEL VARIABLES READ AS WHEN THE CALL BEGINS. Each datum BY PROGRAM (the guide's laid-datum.mjs) off the statement by which the dump's own 'gosem.cut.vars' lays the variable. In a bare row this is a premise. The card (YthmpjmohakdkmaaGreatDoorCards.lean) ties it to the program's text. -/
def laid_loop_example_pub_g03124_pub_suffixarray_maxData32 {H : Type} : DataW H := .lit (.int .i64 2147483647)

/-- 'laws.FnSome': WHATEVER THE INPUT: true; the input reads as it did. -/
def fnSomeSpec : ChangeSpec := { name := "fnSome", vars := ["loop.example/pub-g03124/pub/suffixarray.maxData32"], fn := fun _ => fun
  | [d1, d2, d3, g1] => { results := [.lit (.bool true)], args := [d1, d2, d3], vars := [g1] }
  | _ => none }
def fnSomeRow : OpenClaim := { program := "ythmpjmohakdkmaagreatdoor", sum := "0789500c8b1d0f6347dad13bfe6a71819db601651424953bd07ed0eaed7b04b1", func := "loop.example/pub-g03124/laws.FnSome", spec := "fnSome", inPlace := ["internal/bytealg.Compare"], unfollowed := true, recurses := true, named := ["loop.example/pub-g03124/pub/suffixarray.maxData32"], apart := false, laid := [("loop.example/pub-g03124/pub/suffixarray.maxData32", laid_loop_example_pub_g03124_pub_suffixarray_maxData32)] }
def FnSomeSaid : Prop := fnSomeRow.holds Tryz.pinned (OpenSpec.ofChange fnSomeSpec)

/-- ITS FALSE NEIGHBOUR: 'it returns false'. Refute it at one input. -/
def fnSomeWrong : ChangeSpec := { name := "fnSome", vars := ["loop.example/pub-g03124/pub/suffixarray.maxData32"], fn := fun _ => fun
  | [d1, d2, d3, g1] => { results := [.lit (.bool false)], args := [d1, d2, d3], vars := [g1] }
  | _ => none }
def FnSomeWrongFalsely : Prop := fnSomeRow.holds Tryz.pinned (OpenSpec.ofChange fnSomeWrong)

/-- 'laws.FnLookup': WHATEVER THE INPUT: true; the input reads as it did. -/
def fnLookupSpec : ChangeSpec := { name := "fnLookup", vars := ["loop.example/pub-g03124/pub/suffixarray.maxData32"], fn := fun _ => fun
  | [d1, d2, g1] => { results := [.lit (.bool true)], args := [d1, d2], vars := [g1] }
  | _ => none }
def fnLookupRow : OpenClaim := { program := "ythmpjmohakdkmaagreatdoor", sum := "0789500c8b1d0f6347dad13bfe6a71819db601651424953bd07ed0eaed7b04b1", func := "loop.example/pub-g03124/laws.FnLookup", spec := "fnLookup", inPlace := ["internal/bytealg.Compare"], unfollowed := true, recurses := true, named := ["loop.example/pub-g03124/pub/suffixarray.maxData32"], apart := false, laid := [("loop.example/pub-g03124/pub/suffixarray.maxData32", laid_loop_example_pub_g03124_pub_suffixarray_maxData32)] }
def FnLookupSaid : Prop := fnLookupRow.holds Tryz.pinned (OpenSpec.ofChange fnLookupSpec)

/-- ITS FALSE NEIGHBOUR: 'it returns false'. Refute it at one input. -/
def fnLookupWrong : ChangeSpec := { name := "fnLookup", vars := ["loop.example/pub-g03124/pub/suffixarray.maxData32"], fn := fun _ => fun
  | [d1, d2, g1] => { results := [.lit (.bool false)], args := [d1, d2], vars := [g1] }
  | _ => none }
def FnLookupWrongFalsely : Prop := fnLookupRow.holds Tryz.pinned (OpenSpec.ofChange fnLookupWrong)

/- THE SECOND FORM. 'bulk': how many values and letters a reading holds, each counted each time it is reached (what is shared counts as often as it is met; a slice's spare places count too). A statement '..UptoSaid' is the law's where the arguments, and the package variables that the reading takes, are together of bulk at most 1048576: NARROWER than '..Said'. Prove '..Said' where nothing that the law and all that it calls make is longer than what came in: it says more and counts as full. Else prove '..UptoSaid'. A law counts once. -/
mutual
def uptoBulk {H : Type} : DataW H → Nat
  | .lit (.string bytes) => bytes.length + 1
  | .lit _ => 1
  | .nil => 1
  | .ptr d => uptoBulk d + 1
  | .slice elems spare => uptoBulkAll elems + uptoBulkAll spare + 1
  | .agg parts => uptoBulkAll parts + 1
  | .iface _ d => uptoBulk d + 1
  | .map entries => uptoBulkEntries entries + 1
  | .held _ => 1
def uptoBulkAll {H : Type} : List (DataW H) → Nat
  | [] => 0
  | d :: r => uptoBulk d + uptoBulkAll r
def uptoBulkEntries {H : Type} : List (Lit × DataW H) → Nat
  | [] => 0
  | x :: r => uptoBulkEntry x + uptoBulkEntries r
def uptoBulkEntry {H : Type} : Lit × DataW H → Nat
  | (.string bytes, d) => bytes.length + uptoBulk d + 1
  | (_, d) => uptoBulk d + 1
 end
def uptoSmall : (H : Type) → List (DataW H) → Bool := fun _ ds => decide (uptoBulkAll ds ≤ 1048576)
def OpenSpec.upto (s : _root_.Go.ChangeSpec) : _root_.Go.OpenSpec := { _root_.Go.OpenSpec.ofChange s with cond := some uptoSmall }

/-- 'laws.FnSome', WHERE WHAT IT READS IS OF BULK AT MOST 1048576: true; the input reads as it did. -/
def fnSomeUptoRow : OpenClaim := { program := "ythmpjmohakdkmaagreatdoor", sum := "0789500c8b1d0f6347dad13bfe6a71819db601651424953bd07ed0eaed7b04b1", func := "loop.example/pub-g03124/laws.FnSome", spec := "fnSome", inPlace := ["internal/bytealg.Compare"], unfollowed := true, recurses := true, named := ["loop.example/pub-g03124/pub/suffixarray.maxData32"], apart := false, laid := [("loop.example/pub-g03124/pub/suffixarray.maxData32", laid_loop_example_pub_g03124_pub_suffixarray_maxData32)], narrowed := true }
def FnSomeUptoSaid : Prop := fnSomeUptoRow.holds Tryz.pinned (OpenSpec.upto fnSomeSpec)

/-- 'laws.FnLookup', WHERE WHAT IT READS IS OF BULK AT MOST 1048576: true; the input reads as it did. -/
def fnLookupUptoRow : OpenClaim := { program := "ythmpjmohakdkmaagreatdoor", sum := "0789500c8b1d0f6347dad13bfe6a71819db601651424953bd07ed0eaed7b04b1", func := "loop.example/pub-g03124/laws.FnLookup", spec := "fnLookup", inPlace := ["internal/bytealg.Compare"], unfollowed := true, recurses := true, named := ["loop.example/pub-g03124/pub/suffixarray.maxData32"], apart := false, laid := [("loop.example/pub-g03124/pub/suffixarray.maxData32", laid_loop_example_pub_g03124_pub_suffixarray_maxData32)], narrowed := true }
def FnLookupUptoSaid : Prop := fnLookupUptoRow.holds Tryz.pinned (OpenSpec.upto fnLookupSpec)

end Rows
end Go.Proofs.YthmpjmohakdkmaaGreatDoor
