/-
  NARROWER THAN 'FOR EVERY INPUT', by the rows' own cells (each row's printed sentence says how): FnBytes: laid · FnEvery: laid · FnLonger: laid.
  DERIVED. THE GIVEN ROWS OF THIS SEAT. 3 by the template 'for every input the law returns true; each argument reads behind the call as it read before'; 0 by the template 'total and deterministic' (their statements: YthmpjmohakdkmaaDoorTotals.lean).
  GIVEN WITH THE SEED: the statements are not yours to turn. If you find one false, say at which input.
  Laid BY PROGRAM, IN A SANDBOX (cutbox-rows.mjs): the forced cells as the released guide's own fill.sh prints them over the translation 1267a6895ab4c10a… (all of the seat's roots in one cut). By AI agents, Wed Nov 11 2026. No macro, syntax, notation, axiom, sorry.
-/
import Derived.Test.YthmpjmohakdkmaaDoorChecked
import GoSem.Claim
import GoSem.ClaimJoined
import GoSem.ClaimMapViews
import Derived.JoinedTies
import Derived.KernelRfl
namespace Go.Proofs.YthmpjmohakdkmaaDoor
/- THE CELL 'sum', in the pinned program and in every row, IS THE sha256 OF THE DUMP (.gsa) THAT YthmpjmohakdkmaaDoorProg.lean LOADS. Nothing in Lean hashes anything: it is a label: what it is worth is what the hold of that sum in a sandbox is worth. -/
noncomputable def Tryd.pinned : Pinned := { name := "ythmpjmohakdkmaadoor", sum := "1267a6895ab4c10a369ca277cff06003ef730d69a5c11deb97706c69b0a46f82", checked := Tryd.checked }
namespace Rows
def none {H : Type} : Left H := { results := [], args := [] }

/- WHAT THE LISTED PACKAGE-LEVEL VARIABLES READ AS WHEN THE CALL BEGINS. Each datum BY PROGRAM (the guide's laid-datum.mjs) off the statement by which the dump's own 'gosem.cut.vars' lays the variable. In a bare row this is a premise. The card (YthmpjmohakdkmaaDoorCards.lean) ties it to the program's text. -/
def laid_loop_example_pub_g03124_pub_suffixarray_maxData32 {H : Type} : DataW H := .lit (.int .i64 2147483647)

/-- 'laws.FnBytes': WHATEVER THE INPUT: true; the input reads as it did. -/
def fnBytesSpec : ChangeSpec := { name := "fnBytes", vars := ["loop.example/pub-g03124/pub/suffixarray.maxData32"], fn := fun _ => fun
  | [d, g1] => { results := [.lit (.bool true)], args := [d], vars := [g1] }
  | _ => none }
def fnBytesRow : OpenClaim := { program := "ythmpjmohakdkmaadoor", sum := "1267a6895ab4c10a369ca277cff06003ef730d69a5c11deb97706c69b0a46f82", func := "loop.example/pub-g03124/laws.FnBytes", spec := "fnBytes", recurses := true, named := ["loop.example/pub-g03124/pub/suffixarray.maxData32"], apart := false, laid := [("loop.example/pub-g03124/pub/suffixarray.maxData32", laid_loop_example_pub_g03124_pub_suffixarray_maxData32)] }
def FnBytesSaid : Prop := fnBytesRow.holds Tryd.pinned (OpenSpec.ofChange fnBytesSpec)

/-- ITS FALSE NEIGHBOUR: 'it returns false'. Refute it at one input. -/
def fnBytesWrong : ChangeSpec := { name := "fnBytes", vars := ["loop.example/pub-g03124/pub/suffixarray.maxData32"], fn := fun _ => fun
  | [d, g1] => { results := [.lit (.bool false)], args := [d], vars := [g1] }
  | _ => none }
def FnBytesWrongFalsely : Prop := fnBytesRow.holds Tryd.pinned (OpenSpec.ofChange fnBytesWrong)

/-- 'laws.FnEvery': WHATEVER THE INPUT: true; the input reads as it did. -/
def fnEverySpec : ChangeSpec := { name := "fnEvery", vars := ["loop.example/pub-g03124/pub/suffixarray.maxData32"], fn := fun _ => fun
  | [d1, d2, d3, g1] => { results := [.lit (.bool true)], args := [d1, d2, d3], vars := [g1] }
  | _ => none }
def fnEveryRow : OpenClaim := { program := "ythmpjmohakdkmaadoor", sum := "1267a6895ab4c10a369ca277cff06003ef730d69a5c11deb97706c69b0a46f82", func := "loop.example/pub-g03124/laws.FnEvery", spec := "fnEvery", inPlace := ["internal/bytealg.Compare"], unfollowed := true, recurses := true, named := ["loop.example/pub-g03124/pub/suffixarray.maxData32"], apart := false, laid := [("loop.example/pub-g03124/pub/suffixarray.maxData32", laid_loop_example_pub_g03124_pub_suffixarray_maxData32)] }
def FnEverySaid : Prop := fnEveryRow.holds Tryd.pinned (OpenSpec.ofChange fnEverySpec)

/-- ITS FALSE NEIGHBOUR: 'it returns false'. Refute it at one input. -/
def fnEveryWrong : ChangeSpec := { name := "fnEvery", vars := ["loop.example/pub-g03124/pub/suffixarray.maxData32"], fn := fun _ => fun
  | [d1, d2, d3, g1] => { results := [.lit (.bool false)], args := [d1, d2, d3], vars := [g1] }
  | _ => none }
def FnEveryWrongFalsely : Prop := fnEveryRow.holds Tryd.pinned (OpenSpec.ofChange fnEveryWrong)

/-- 'laws.FnLonger': WHATEVER THE INPUT: true; the input reads as it did. -/
def fnLongerSpec : ChangeSpec := { name := "fnLonger", vars := ["loop.example/pub-g03124/pub/suffixarray.maxData32"], fn := fun _ => fun
  | [d1, d2, d3, g1] => { results := [.lit (.bool true)], args := [d1, d2, d3], vars := [g1] }
  | _ => none }
def fnLongerRow : OpenClaim := { program := "ythmpjmohakdkmaadoor", sum := "1267a6895ab4c10a369ca277cff06003ef730d69a5c11deb97706c69b0a46f82", func := "loop.example/pub-g03124/laws.FnLonger", spec := "fnLonger", inPlace := ["internal/bytealg.Compare"], unfollowed := true, recurses := true, named := ["loop.example/pub-g03124/pub/suffixarray.maxData32"], apart := false, laid := [("loop.example/pub-g03124/pub/suffixarray.maxData32", laid_loop_example_pub_g03124_pub_suffixarray_maxData32)] }
def FnLongerSaid : Prop := fnLongerRow.holds Tryd.pinned (OpenSpec.ofChange fnLongerSpec)

/-- ITS FALSE NEIGHBOUR: 'it returns false'. Refute it at one input. -/
def fnLongerWrong : ChangeSpec := { name := "fnLonger", vars := ["loop.example/pub-g03124/pub/suffixarray.maxData32"], fn := fun _ => fun
  | [d1, d2, d3, g1] => { results := [.lit (.bool false)], args := [d1, d2, d3], vars := [g1] }
  | _ => none }
def FnLongerWrongFalsely : Prop := fnLongerRow.holds Tryd.pinned (OpenSpec.ofChange fnLongerWrong)

/- THE SECOND FORM. 'bulk': how many values and letters a reading holds, each counted each time it is reached (what is shared counts as often as it is met; a slice's spare places count too). A statement '..UptoSaid' is the law's where the arguments, and the package variables that the reading takes, are together of bulk at most 1048576: NARROWER than '..Said'. Prove '..Said' where nothing that the law and all that it calls make is longer than what came in: it says more and counts as full. Else prove '..UptoSaid'. A law counts once. -/
mutual
def uptoBulk {H : Type} : DataW H → Nat
  | .lit (.string bytes) => bytes.length + 1
  | .lit _ => 1
  | .nil => 1
  | .ptr d => uptoBulk d + 1
  | .slice elems spare => uptoBulkAll elems + uptoBulkAll spare + 1
  | .agg parts => uptoBulkAll parts + 1
  | .iface _ d => uptoBulk d + 1
  | .map entries => uptoBulkEntries entries + 1
  | .held _ => 1
def uptoBulkAll {H : Type} : List (DataW H) → Nat
  | [] => 0
  | d :: r => uptoBulk d + uptoBulkAll r
def uptoBulkEntries {H : Type} : List (Lit × DataW H) → Nat
  | [] => 0
  | x :: r => uptoBulkEntry x + uptoBulkEntries r
def uptoBulkEntry {H : Type} : Lit × DataW H → Nat
  | (.string bytes, d) => bytes.length + uptoBulk d + 1
  | (_, d) => uptoBulk d + 1
 end
def uptoSmall : (H : Type) → List (DataW H) → Bool := fun _ ds => decide (uptoBulkAll ds ≤ 1048576)
def OpenSpec.upto (s : _root_.Go.ChangeSpec) : _root_.Go.OpenSpec := { _root_.Go.OpenSpec.ofChange s with cond := some uptoSmall }

/-- 'laws.FnBytes', WHERE WHAT IT READS IS OF BULK AT MOST 1048576: true; the input reads as it did. -/
def fnBytesUptoRow : OpenClaim := { program := "ythmpjmohakdkmaadoor", sum := "1267a6895ab4c10a369ca277cff06003ef730d69a5c11deb97706c69b0a46f82", func := "loop.example/pub-g03124/laws.FnBytes", spec := "fnBytes", recurses := true, named := ["loop.example/pub-g03124/pub/suffixarray.maxData32"], apart := false, laid := [("loop.example/pub-g03124/pub/suffixarray.maxData32", laid_loop_example_pub_g03124_pub_suffixarray_maxData32)], narrowed := true }
def FnBytesUptoSaid : Prop := fnBytesUptoRow.holds Tryd.pinned (OpenSpec.upto fnBytesSpec)

/-- 'laws.FnEvery', WHERE WHAT IT READS IS OF BULK AT MOST 1048576: true; the input reads as it did. -/
def fnEveryUptoRow : OpenClaim := { program := "ythmpjmohakdkmaadoor", sum := "1267a6895ab4c10a369ca277cff06003ef730d69a5c11deb97706c69b0a46f82", func := "loop.example/pub-g03124/laws.FnEvery", spec := "fnEvery", inPlace := ["internal/bytealg.Compare"], unfollowed := true, recurses := true, named := ["loop.example/pub-g03124/pub/suffixarray.maxData32"], apart := false, laid := [("loop.example/pub-g03124/pub/suffixarray.maxData32", laid_loop_example_pub_g03124_pub_suffixarray_maxData32)], narrowed := true }
def FnEveryUptoSaid : Prop := fnEveryUptoRow.holds Tryd.pinned (OpenSpec.upto fnEverySpec)

/-- 'laws.FnLonger', WHERE WHAT IT READS IS OF BULK AT MOST 1048576: true; the input reads as it did. -/
def fnLongerUptoRow : OpenClaim := { program := "ythmpjmohakdkmaadoor", sum := "1267a6895ab4c10a369ca277cff06003ef730d69a5c11deb97706c69b0a46f82", func := "loop.example/pub-g03124/laws.FnLonger", spec := "fnLonger", inPlace := ["internal/bytealg.Compare"], unfollowed := true, recurses := true, named := ["loop.example/pub-g03124/pub/suffixarray.maxData32"], apart := false, laid := [("loop.example/pub-g03124/pub/suffixarray.maxData32", laid_loop_example_pub_g03124_pub_suffixarray_maxData32)], narrowed := true }
def FnLongerUptoSaid : Prop := fnLongerUptoRow.holds Tryd.pinned (OpenSpec.upto fnLongerSpec)

end Rows
end Go.Proofs.YthmpjmohakdkmaaDoor
