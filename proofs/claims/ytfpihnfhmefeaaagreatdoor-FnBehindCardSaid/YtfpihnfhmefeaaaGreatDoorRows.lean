/-
  NARROWER THAN 'FOR EVERY INPUT', by the rows' own cells (each row's printed sentence says how): FnBehind: ifaces, laid · FnSaved: ifaces, laid · FnCut: ifaces, laid.
  DERIVED. THE GIVEN ROWS OF THIS SEAT. 3 by the template 'for every input the law returns true; each argument reads behind the call as it read before'; 0 by the template 'total and deterministic' (their statements: YtfpihnfhmefeaaaGreatDoorTotals.lean).
  GIVEN WITH THE SEED: the statements are not yours to turn. If you find one false, say at which input.
  Laid BY PROGRAM, IN A SANDBOX (cutbox-rows.mjs): the forced cells as the released guide's own fill.sh prints them over the translation 33de1b4b9b4b0302… (all of the seat's roots in one cut). By AI agents, Wed Nov 11 2026. No macro, syntax, notation, axiom, sorry.
-/
import Derived.Test.YtfpihnfhmefeaaaGreatDoorChecked
import GoSem.Claim
import GoSem.ClaimJoined
import GoSem.ClaimMapViews
import Derived.JoinedTies
import Derived.KernelRfl
namespace Go.Proofs.YtfpihnfhmefeaaaGreatDoor
/- THE CELL 'sum', in the pinned program and in every row, IS THE sha256 OF THE DUMP (.gsa) THAT YtfpihnfhmefeaaaGreatDoorProg.lean LOADS. Nothing in Lean hashes anything: it is a label: what it is worth is what the hold of that sum in a sandbox is worth. -/
noncomputable def Tryz.pinned : Pinned := { name := "ytfpihnfhmefeaaagreatdoor", sum := "33de1b4b9b4b03023ba9e98c88854f7dc3b97e14d8b6ff0686cc322b7eae3d33", checked := Tryz.checked }
namespace Rows
def none {H : Type} : Left H := { results := [], args := [] }

/- WHAT THE LISTED PACKAGE-LEVEL VARIABLES READ AS WHEN THE CALL BEGINS. Each datum BY PROGRAM (the guide's laid-datum.mjs) off the statement by which the dump's own 'gosem.cut.vars' lays the variable. In a bare row this is a premise. The card (YtfpihnfhmefeaaaGreatDoorCards.lean) ties it to the program's text. -/
def laid_io_ErrShortBuffer {H : Type} : DataW H := .iface "*errors.errorString" (.ptr (.agg [.lit (.string [115, 104, 111, 114, 116, 32, 98, 117, 102, 102, 101, 114])]))
def laid_io_EOF {H : Type} : DataW H := .iface "*errors.errorString" (.ptr (.agg [.lit (.string [69, 79, 70])]))
def laid_io_ErrUnexpectedEOF {H : Type} : DataW H := .iface "*errors.errorString" (.ptr (.agg [.lit (.string [117, 110, 101, 120, 112, 101, 99, 116, 101, 100, 32, 69, 79, 70])]))
def laid_loop_example_pub_g03124_pub_suffixarray_maxData32 {H : Type} : DataW H := .lit (.int .i64 2147483647)
def laid_loop_example_pub_g03124_pub_suffixarray_errCorrupted {H : Type} : DataW H := .iface "*errors.errorString" (.ptr (.agg [.lit (.string [115, 117, 102, 102, 105, 120, 97, 114, 114, 97, 121, 58, 32, 100, 97, 116, 97, 32, 99, 111, 114, 114, 117, 112, 116, 101, 100])]))

/-- 'laws.FnBehind': WHATEVER THE INPUT: true; the input reads as it did. -/
def fnBehindSpec : ChangeSpec := { name := "fnBehind", vars := ["loop.example/pub-g03124/pub/suffixarray.maxData32", "loop.example/pub-g03124/pub/suffixarray.errCorrupted"], fn := fun _ => fun
  | [d1, d2, d3, g1, g2] => { results := [.lit (.bool true)], args := [d1, d2, d3], vars := [g1, g2] }
  | _ => none }
def fnBehindRow : OpenClaim := { program := "ytfpihnfhmefeaaagreatdoor", sum := "33de1b4b9b4b03023ba9e98c88854f7dc3b97e14d8b6ff0686cc322b7eae3d33", func := "loop.example/pub-g03124/laws.FnBehind", spec := "fnBehind", inPlace := ["internal/bytealg.Compare"], unfollowed := true, recurses := true, named := ["loop.example/pub-g03124/pub/suffixarray.maxData32", "loop.example/pub-g03124/pub/suffixarray.errCorrupted", "io.ErrShortBuffer", "io.EOF", "io.ErrUnexpectedEOF"], ifaces := true, apart := false, laid := [("io.ErrShortBuffer", laid_io_ErrShortBuffer), ("io.EOF", laid_io_EOF), ("io.ErrUnexpectedEOF", laid_io_ErrUnexpectedEOF), ("loop.example/pub-g03124/pub/suffixarray.maxData32", laid_loop_example_pub_g03124_pub_suffixarray_maxData32), ("loop.example/pub-g03124/pub/suffixarray.errCorrupted", laid_loop_example_pub_g03124_pub_suffixarray_errCorrupted)] }
def FnBehindSaid : Prop := fnBehindRow.holds Tryz.pinned (OpenSpec.ofChange fnBehindSpec)

/-- ITS FALSE NEIGHBOUR: 'it returns false'. Refute it at one input. -/
def fnBehindWrong : ChangeSpec := { name := "fnBehind", vars := ["loop.example/pub-g03124/pub/suffixarray.maxData32", "loop.example/pub-g03124/pub/suffixarray.errCorrupted"], fn := fun _ => fun
  | [d1, d2, d3, g1, g2] => { results := [.lit (.bool false)], args := [d1, d2, d3], vars := [g1, g2] }
  | _ => none }
def FnBehindWrongFalsely : Prop := fnBehindRow.holds Tryz.pinned (OpenSpec.ofChange fnBehindWrong)

/-- 'laws.FnSaved': WHATEVER THE INPUT: true; the input reads as it did. -/
def fnSavedSpec : ChangeSpec := { name := "fnSaved", vars := ["loop.example/pub-g03124/pub/suffixarray.maxData32", "loop.example/pub-g03124/pub/suffixarray.errCorrupted"], fn := fun _ => fun
  | [d1, d2, d3, g1, g2] => { results := [.lit (.bool true)], args := [d1, d2, d3], vars := [g1, g2] }
  | _ => none }
def fnSavedRow : OpenClaim := { program := "ytfpihnfhmefeaaagreatdoor", sum := "33de1b4b9b4b03023ba9e98c88854f7dc3b97e14d8b6ff0686cc322b7eae3d33", func := "loop.example/pub-g03124/laws.FnSaved", spec := "fnSaved", inPlace := ["internal/bytealg.Compare"], unfollowed := true, recurses := true, named := ["loop.example/pub-g03124/pub/suffixarray.maxData32", "loop.example/pub-g03124/pub/suffixarray.errCorrupted", "io.ErrShortBuffer", "io.EOF", "io.ErrUnexpectedEOF"], ifaces := true, apart := false, laid := [("io.ErrShortBuffer", laid_io_ErrShortBuffer), ("io.EOF", laid_io_EOF), ("io.ErrUnexpectedEOF", laid_io_ErrUnexpectedEOF), ("loop.example/pub-g03124/pub/suffixarray.maxData32", laid_loop_example_pub_g03124_pub_suffixarray_maxData32), ("loop.example/pub-g03124/pub/suffixarray.errCorrupted", laid_loop_example_pub_g03124_pub_suffixarray_errCorrupted)] }
def FnSavedSaid : Prop := fnSavedRow.holds Tryz.pinned (OpenSpec.ofChange fnSavedSpec)

/-- ITS FALSE NEIGHBOUR: 'it returns false'. Refute it at one input. -/
def fnSavedWrong : ChangeSpec := { name := "fnSaved", vars := ["loop.example/pub-g03124/pub/suffixarray.maxData32", "loop.example/pub-g03124/pub/suffixarray.errCorrupted"], fn := fun _ => fun
  | [d1, d2, d3, g1, g2] => { results := [.lit (.bool false)], args := [d1, d2, d3], vars := [g1, g2] }
  | _ => none }
def FnSavedWrongFalsely : Prop := fnSavedRow.holds Tryz.pinned (OpenSpec.ofChange fnSavedWrong)

/-- 'laws.FnCut': WHATEVER THE INPUT: true; the input reads as it did. -/
def fnCutSpec : ChangeSpec := { name := "fnCut", vars := ["loop.example/pub-g03124/pub/suffixarray.maxData32", "loop.example/pub-g03124/pub/suffixarray.errCorrupted"], fn := fun _ => fun
  | [d1, d2, g1, g2] => { results := [.lit (.bool true)], args := [d1, d2], vars := [g1, g2] }
  | _ => none }
def fnCutRow : OpenClaim := { program := "ytfpihnfhmefeaaagreatdoor", sum := "33de1b4b9b4b03023ba9e98c88854f7dc3b97e14d8b6ff0686cc322b7eae3d33", func := "loop.example/pub-g03124/laws.FnCut", spec := "fnCut", inPlace := ["internal/bytealg.Compare"], unfollowed := true, recurses := true, named := ["loop.example/pub-g03124/pub/suffixarray.maxData32", "loop.example/pub-g03124/pub/suffixarray.errCorrupted", "io.ErrShortBuffer", "io.EOF", "io.ErrUnexpectedEOF"], ifaces := true, apart := false, laid := [("io.ErrShortBuffer", laid_io_ErrShortBuffer), ("io.EOF", laid_io_EOF), ("io.ErrUnexpectedEOF", laid_io_ErrUnexpectedEOF), ("loop.example/pub-g03124/pub/suffixarray.maxData32", laid_loop_example_pub_g03124_pub_suffixarray_maxData32), ("loop.example/pub-g03124/pub/suffixarray.errCorrupted", laid_loop_example_pub_g03124_pub_suffixarray_errCorrupted)] }
def FnCutSaid : Prop := fnCutRow.holds Tryz.pinned (OpenSpec.ofChange fnCutSpec)

/-- ITS FALSE NEIGHBOUR: 'it returns false'. Refute it at one input. -/
def fnCutWrong : ChangeSpec := { name := "fnCut", vars := ["loop.example/pub-g03124/pub/suffixarray.maxData32", "loop.example/pub-g03124/pub/suffixarray.errCorrupted"], fn := fun _ => fun
  | [d1, d2, g1, g2] => { results := [.lit (.bool false)], args := [d1, d2], vars := [g1, g2] }
  | _ => none }
def FnCutWrongFalsely : Prop := fnCutRow.holds Tryz.pinned (OpenSpec.ofChange fnCutWrong)

/- THE SECOND FORM. 'bulk': how many values and letters a reading holds, each counted each time it is reached (what is shared counts as often as it is met; a slice's spare places count too). A statement '..UptoSaid' is the law's where the arguments, and the package variables that the reading takes, are together of bulk at most 1048576: NARROWER than '..Said'. Prove '..Said' where nothing that the law and all that it calls make is longer than what came in: it says more and counts as full. Else prove '..UptoSaid'. A law counts once. -/
mutual
def uptoBulk {H : Type} : DataW H → Nat
  | .lit (.string bytes) => bytes.length + 1
  | .lit _ => 1
  | .nil => 1
  | .ptr d => uptoBulk d + 1
  | .slice elems spare => uptoBulkAll elems + uptoBulkAll spare + 1
  | .agg parts => uptoBulkAll parts + 1
  | .iface _ d => uptoBulk d + 1
  | .map entries => uptoBulkEntries entries + 1
  | .held _ => 1
def uptoBulkAll {H : Type} : List (DataW H) → Nat
  | [] => 0
  | d :: r => uptoBulk d + uptoBulkAll r
def uptoBulkEntries {H : Type} : List (Lit × DataW H) → Nat
  | [] => 0
  | x :: r => uptoBulkEntry x + uptoBulkEntries r
def uptoBulkEntry {H : Type} : Lit × DataW H → Nat
  | (.string bytes, d) => bytes.length + uptoBulk d + 1
  | (_, d) => uptoBulk d + 1
 end
def uptoSmall : (H : Type) → List (DataW H) → Bool := fun _ ds => decide (uptoBulkAll ds ≤ 1048576)
def OpenSpec.upto (s : _root_.Go.ChangeSpec) : _root_.Go.OpenSpec := { _root_.Go.OpenSpec.ofChange s with cond := some uptoSmall }

/-- 'laws.FnBehind', WHERE WHAT IT READS IS OF BULK AT MOST 1048576: true; the input reads as it did. -/
def fnBehindUptoRow : OpenClaim := { program := "ytfpihnfhmefeaaagreatdoor", sum := "33de1b4b9b4b03023ba9e98c88854f7dc3b97e14d8b6ff0686cc322b7eae3d33", func := "loop.example/pub-g03124/laws.FnBehind", spec := "fnBehind", inPlace := ["internal/bytealg.Compare"], unfollowed := true, recurses := true, named := ["loop.example/pub-g03124/pub/suffixarray.maxData32", "loop.example/pub-g03124/pub/suffixarray.errCorrupted", "io.ErrShortBuffer", "io.EOF", "io.ErrUnexpectedEOF"], ifaces := true, apart := false, laid := [("io.ErrShortBuffer", laid_io_ErrShortBuffer), ("io.EOF", laid_io_EOF), ("io.ErrUnexpectedEOF", laid_io_ErrUnexpectedEOF), ("loop.example/pub-g03124/pub/suffixarray.maxData32", laid_loop_example_pub_g03124_pub_suffixarray_maxData32), ("loop.example/pub-g03124/pub/suffixarray.errCorrupted", laid_loop_example_pub_g03124_pub_suffixarray_errCorrupted)], narrowed := true }
def FnBehindUptoSaid : Prop := fnBehindUptoRow.holds Tryz.pinned (OpenSpec.upto fnBehindSpec)

/-- 'laws.FnSaved', WHERE WHAT IT READS IS OF BULK AT MOST 1048576: true; the input reads as it did. -/
def fnSavedUptoRow : OpenClaim := { program := "ytfpihnfhmefeaaagreatdoor", sum := "33de1b4b9b4b03023ba9e98c88854f7dc3b97e14d8b6ff0686cc322b7eae3d33", func := "loop.example/pub-g03124/laws.FnSaved", spec := "fnSaved", inPlace := ["internal/bytealg.Compare"], unfollowed := true, recurses := true, named := ["loop.example/pub-g03124/pub/suffixarray.maxData32", "loop.example/pub-g03124/pub/suffixarray.errCorrupted", "io.ErrShortBuffer", "io.EOF", "io.ErrUnexpectedEOF"], ifaces := true, apart := false, laid := [("io.ErrShortBuffer", laid_io_ErrShortBuffer), ("io.EOF", laid_io_EOF), ("io.ErrUnexpectedEOF", laid_io_ErrUnexpectedEOF), ("loop.example/pub-g03124/pub/suffixarray.maxData32", laid_loop_example_pub_g03124_pub_suffixarray_maxData32), ("loop.example/pub-g03124/pub/suffixarray.errCorrupted", laid_loop_example_pub_g03124_pub_suffixarray_errCorrupted)], narrowed := true }
def FnSavedUptoSaid : Prop := fnSavedUptoRow.holds Tryz.pinned (OpenSpec.upto fnSavedSpec)

/-- 'laws.FnCut', WHERE WHAT IT READS IS OF BULK AT MOST 1048576: true; the input reads as it did. -/
def fnCutUptoRow : OpenClaim := { program := "ytfpihnfhmefeaaagreatdoor", sum := "33de1b4b9b4b03023ba9e98c88854f7dc3b97e14d8b6ff0686cc322b7eae3d33", func := "loop.example/pub-g03124/laws.FnCut", spec := "fnCut", inPlace := ["internal/bytealg.Compare"], unfollowed := true, recurses := true, named := ["loop.example/pub-g03124/pub/suffixarray.maxData32", "loop.example/pub-g03124/pub/suffixarray.errCorrupted", "io.ErrShortBuffer", "io.EOF", "io.ErrUnexpectedEOF"], ifaces := true, apart := false, laid := [("io.ErrShortBuffer", laid_io_ErrShortBuffer), ("io.EOF", laid_io_EOF), ("io.ErrUnexpectedEOF", laid_io_ErrUnexpectedEOF), ("loop.example/pub-g03124/pub/suffixarray.maxData32", laid_loop_example_pub_g03124_pub_suffixarray_maxData32), ("loop.example/pub-g03124/pub/suffixarray.errCorrupted", laid_loop_example_pub_g03124_pub_suffixarray_errCorrupted)], narrowed := true }
def FnCutUptoSaid : Prop := fnCutUptoRow.holds Tryz.pinned (OpenSpec.upto fnCutSpec)

end Rows
end Go.Proofs.YtfpihnfhmefeaaaGreatDoor
