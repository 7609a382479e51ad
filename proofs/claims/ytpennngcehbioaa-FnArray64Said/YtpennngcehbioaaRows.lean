/-
  No cell of these rows narrows 'for every input' (looked for: loops, veiled, ifaces, maps, wideKeys, modest, calm, conditions, laid).
  DERIVED. THE GIVEN ROWS OF THIS SEAT. 8 by the template 'for every input the law returns true; each argument reads behind the call as it read before'; 0 by the template 'total and deterministic' (their statements: YtpennngcehbioaaTotals.lean).
  GIVEN WITH THE SEED: the statements are not yours to turn. If you find one false, say at which input.
  Laid BY PROGRAM, IN A SANDBOX (cutbox-rows.mjs): the forced cells as the released guide's own fill.sh prints them over the translation a6bc7d2789401e49… (all of the seat's roots in one cut). By AI agents, Wed Nov 11 2026. No macro, syntax, notation, axiom, sorry.
-/
import Derived.Test.YtpennngcehbioaaChecked
import GoSem.Claim
import GoSem.ClaimJoined
import GoSem.ClaimMapViews
import Derived.JoinedTies
import Derived.KernelRfl
namespace Go.Proofs.Ytpennngcehbioaa
/- THE CELL 'sum', in the pinned program and in every row, IS THE sha256 OF THE DUMP (.gsa) THAT YtpennngcehbioaaProg.lean LOADS. Nothing in Lean hashes anything: it is a label: what it is worth is what the hold of that sum in a sandbox is worth. -/
noncomputable def Try.pinned : Pinned := { name := "ytpennngcehbioaa", sum := "a6bc7d2789401e49692f32ff66f2e2add8fc881aa2d488a00c8db1d578b57590", checked := Try.checked }
namespace Rows
def none {H : Type} : Left H := { results := [], args := [] }

/-- 'laws.FnPlaces32': WHATEVER THE INPUT: true; the input reads as it did. -/
def fnPlaces32Spec : ChangeSpec := { name := "fnPlaces32", fn := fun _ => fun
  | [d] => { results := [.lit (.bool true)], args := [d] }
  | _ => none }
def fnPlaces32Row : OpenClaim := { program := "ytpennngcehbioaa", sum := "a6bc7d2789401e49692f32ff66f2e2add8fc881aa2d488a00c8db1d578b57590", func := "loop.example/pub-g03124/laws.FnPlaces32", spec := "fnPlaces32", recurses := true, apart := false }
def FnPlaces32Said : Prop := fnPlaces32Row.holds Try.pinned (OpenSpec.ofChange fnPlaces32Spec)

/-- ITS FALSE NEIGHBOUR: 'it returns false'. Refute it at one input. -/
def fnPlaces32Wrong : ChangeSpec := { name := "fnPlaces32", fn := fun _ => fun
  | [d] => { results := [.lit (.bool false)], args := [d] }
  | _ => none }
def FnPlaces32WrongFalsely : Prop := fnPlaces32Row.holds Try.pinned (OpenSpec.ofChange fnPlaces32Wrong)

/-- 'laws.FnPlaces64': WHATEVER THE INPUT: true; the input reads as it did. -/
def fnPlaces64Spec : ChangeSpec := { name := "fnPlaces64", fn := fun _ => fun
  | [d] => { results := [.lit (.bool true)], args := [d] }
  | _ => none }
def fnPlaces64Row : OpenClaim := { program := "ytpennngcehbioaa", sum := "a6bc7d2789401e49692f32ff66f2e2add8fc881aa2d488a00c8db1d578b57590", func := "loop.example/pub-g03124/laws.FnPlaces64", spec := "fnPlaces64", recurses := true, apart := false }
def FnPlaces64Said : Prop := fnPlaces64Row.holds Try.pinned (OpenSpec.ofChange fnPlaces64Spec)

/-- ITS FALSE NEIGHBOUR: 'it returns false'. Refute it at one input. -/
def fnPlaces64Wrong : ChangeSpec := { name := "fnPlaces64", fn := fun _ => fun
  | [d] => { results := [.lit (.bool false)], args := [d] }
  | _ => none }
def FnPlaces64WrongFalsely : Prop := fnPlaces64Row.holds Try.pinned (OpenSpec.ofChange fnPlaces64Wrong)

/-- 'laws.FnTurned32': WHATEVER THE INPUT: true; the input reads as it did. -/
def fnTurned32Spec : ChangeSpec := { name := "fnTurned32", fn := fun _ => fun
  | [d] => { results := [.lit (.bool true)], args := [d] }
  | _ => none }
def fnTurned32Row : OpenClaim := { program := "ytpennngcehbioaa", sum := "a6bc7d2789401e49692f32ff66f2e2add8fc881aa2d488a00c8db1d578b57590", func := "loop.example/pub-g03124/laws.FnTurned32", spec := "fnTurned32", recurses := true, apart := false }
def FnTurned32Said : Prop := fnTurned32Row.holds Try.pinned (OpenSpec.ofChange fnTurned32Spec)

/-- ITS FALSE NEIGHBOUR: 'it returns false'. Refute it at one input. -/
def fnTurned32Wrong : ChangeSpec := { name := "fnTurned32", fn := fun _ => fun
  | [d] => { results := [.lit (.bool false)], args := [d] }
  | _ => none }
def FnTurned32WrongFalsely : Prop := fnTurned32Row.holds Try.pinned (OpenSpec.ofChange fnTurned32Wrong)

/-- 'laws.FnTurned64': WHATEVER THE INPUT: true; the input reads as it did. -/
def fnTurned64Spec : ChangeSpec := { name := "fnTurned64", fn := fun _ => fun
  | [d] => { results := [.lit (.bool true)], args := [d] }
  | _ => none }
def fnTurned64Row : OpenClaim := { program := "ytpennngcehbioaa", sum := "a6bc7d2789401e49692f32ff66f2e2add8fc881aa2d488a00c8db1d578b57590", func := "loop.example/pub-g03124/laws.FnTurned64", spec := "fnTurned64", recurses := true, apart := false }
def FnTurned64Said : Prop := fnTurned64Row.holds Try.pinned (OpenSpec.ofChange fnTurned64Spec)

/-- ITS FALSE NEIGHBOUR: 'it returns false'. Refute it at one input. -/
def fnTurned64Wrong : ChangeSpec := { name := "fnTurned64", fn := fun _ => fun
  | [d] => { results := [.lit (.bool false)], args := [d] }
  | _ => none }
def FnTurned64WrongFalsely : Prop := fnTurned64Row.holds Try.pinned (OpenSpec.ofChange fnTurned64Wrong)

/-- 'laws.FnAscending32': WHATEVER THE INPUT: true; the input reads as it did. -/
def fnAscending32Spec : ChangeSpec := { name := "fnAscending32", fn := fun _ => fun
  | [d] => { results := [.lit (.bool true)], args := [d] }
  | _ => none }
def fnAscending32Row : OpenClaim := { program := "ytpennngcehbioaa", sum := "a6bc7d2789401e49692f32ff66f2e2add8fc881aa2d488a00c8db1d578b57590", func := "loop.example/pub-g03124/laws.FnAscending32", spec := "fnAscending32", inPlace := ["internal/bytealg.Compare"], recurses := true, apart := false }
def FnAscending32Said : Prop := fnAscending32Row.holds Try.pinned (OpenSpec.ofChange fnAscending32Spec)

/-- ITS FALSE NEIGHBOUR: 'it returns false'. Refute it at one input. -/
def fnAscending32Wrong : ChangeSpec := { name := "fnAscending32", fn := fun _ => fun
  | [d] => { results := [.lit (.bool false)], args := [d] }
  | _ => none }
def FnAscending32WrongFalsely : Prop := fnAscending32Row.holds Try.pinned (OpenSpec.ofChange fnAscending32Wrong)

/-- 'laws.FnAscending64': WHATEVER THE INPUT: true; the input reads as it did. -/
def fnAscending64Spec : ChangeSpec := { name := "fnAscending64", fn := fun _ => fun
  | [d] => { results := [.lit (.bool true)], args := [d] }
  | _ => none }
def fnAscending64Row : OpenClaim := { program := "ytpennngcehbioaa", sum := "a6bc7d2789401e49692f32ff66f2e2add8fc881aa2d488a00c8db1d578b57590", func := "loop.example/pub-g03124/laws.FnAscending64", spec := "fnAscending64", inPlace := ["internal/bytealg.Compare"], recurses := true, apart := false }
def FnAscending64Said : Prop := fnAscending64Row.holds Try.pinned (OpenSpec.ofChange fnAscending64Spec)

/-- ITS FALSE NEIGHBOUR: 'it returns false'. Refute it at one input. -/
def fnAscending64Wrong : ChangeSpec := { name := "fnAscending64", fn := fun _ => fun
  | [d] => { results := [.lit (.bool false)], args := [d] }
  | _ => none }
def FnAscending64WrongFalsely : Prop := fnAscending64Row.holds Try.pinned (OpenSpec.ofChange fnAscending64Wrong)

/-- 'laws.FnArray32': WHATEVER THE INPUT: true; the input reads as it did. -/
def fnArray32Spec : ChangeSpec := { name := "fnArray32", fn := fun _ => fun
  | [d] => { results := [.lit (.bool true)], args := [d] }
  | _ => none }
def fnArray32Row : OpenClaim := { program := "ytpennngcehbioaa", sum := "a6bc7d2789401e49692f32ff66f2e2add8fc881aa2d488a00c8db1d578b57590", func := "loop.example/pub-g03124/laws.FnArray32", spec := "fnArray32", inPlace := ["internal/bytealg.Compare"], unfollowed := true, recurses := true, apart := false }
def FnArray32Said : Prop := fnArray32Row.holds Try.pinned (OpenSpec.ofChange fnArray32Spec)

/-- ITS FALSE NEIGHBOUR: 'it returns false'. Refute it at one input. -/
def fnArray32Wrong : ChangeSpec := { name := "fnArray32", fn := fun _ => fun
  | [d] => { results := [.lit (.bool false)], args := [d] }
  | _ => none }
def FnArray32WrongFalsely : Prop := fnArray32Row.holds Try.pinned (OpenSpec.ofChange fnArray32Wrong)

/-- 'laws.FnArray64': WHATEVER THE INPUT: true; the input reads as it did. -/
def fnArray64Spec : ChangeSpec := { name := "fnArray64", fn := fun _ => fun
  | [d] => { results := [.lit (.bool true)], args := [d] }
  | _ => none }
def fnArray64Row : OpenClaim := { program := "ytpennngcehbioaa", sum := "a6bc7d2789401e49692f32ff66f2e2add8fc881aa2d488a00c8db1d578b57590", func := "loop.example/pub-g03124/laws.FnArray64", spec := "fnArray64", inPlace := ["internal/bytealg.Compare"], unfollowed := true, recurses := true, apart := false }
def FnArray64Said : Prop := fnArray64Row.holds Try.pinned (OpenSpec.ofChange fnArray64Spec)

/-- ITS FALSE NEIGHBOUR: 'it returns false'. Refute it at one input. -/
def fnArray64Wrong : ChangeSpec := { name := "fnArray64", fn := fun _ => fun
  | [d] => { results := [.lit (.bool false)], args := [d] }
  | _ => none }
def FnArray64WrongFalsely : Prop := fnArray64Row.holds Try.pinned (OpenSpec.ofChange fnArray64Wrong)

/- THE SECOND FORM. 'bulk': how many values and letters a reading holds, each counted each time it is reached (what is shared counts as often as it is met; a slice's spare places count too). A statement '..UptoSaid' is the law's where the arguments, and the package variables that the reading takes, are together of bulk at most 1048576: NARROWER than '..Said'. Prove '..Said' where nothing that the law and all that it calls make is longer than what came in: it says more and counts as full. Else prove '..UptoSaid'. A law counts once. -/
mutual
def uptoBulk {H : Type} : DataW H → Nat
  | .lit (.string bytes) => bytes.length + 1
  | .lit _ => 1
  | .nil => 1
  | .ptr d => uptoBulk d + 1
  | .slice elems spare => uptoBulkAll elems + uptoBulkAll spare + 1
  | .agg parts => uptoBulkAll parts + 1
  | .iface _ d => uptoBulk d + 1
  | .map entries => uptoBulkEntries entries + 1
  | .held _ => 1
def uptoBulkAll {H : Type} : List (DataW H) → Nat
  | [] => 0
  | d :: r => uptoBulk d + uptoBulkAll r
def uptoBulkEntries {H : Type} : List (Lit × DataW H) → Nat
  | [] => 0
  | x :: r => uptoBulkEntry x + uptoBulkEntries r
def uptoBulkEntry {H : Type} : Lit × DataW H → Nat
  | (.string bytes, d) => bytes.length + uptoBulk d + 1
  | (_, d) => uptoBulk d + 1
 end
def uptoSmall : (H : Type) → List (DataW H) → Bool := fun _ ds => decide (uptoBulkAll ds ≤ 1048576)
def OpenSpec.upto (s : _root_.Go.ChangeSpec) : _root_.Go.OpenSpec := { _root_.Go.OpenSpec.ofChange s with cond := some uptoSmall }

/-- 'laws.FnPlaces32', WHERE WHAT IT READS IS OF BULK AT MOST 1048576: true; the input reads as it did. -/
def fnPlaces32UptoRow : OpenClaim := { program := "ytpennngcehbioaa", sum := "a6bc7d2789401e49692f32ff66f2e2add8fc881aa2d488a00c8db1d578b57590", func := "loop.example/pub-g03124/laws.FnPlaces32", spec := "fnPlaces32", recurses := true, apart := false, narrowed := true }
def FnPlaces32UptoSaid : Prop := fnPlaces32UptoRow.holds Try.pinned (OpenSpec.upto fnPlaces32Spec)

/-- 'laws.FnPlaces64', WHERE WHAT IT READS IS OF BULK AT MOST 1048576: true; the input reads as it did. -/
def fnPlaces64UptoRow : OpenClaim := { program := "ytpennngcehbioaa", sum := "a6bc7d2789401e49692f32ff66f2e2add8fc881aa2d488a00c8db1d578b57590", func := "loop.example/pub-g03124/laws.FnPlaces64", spec := "fnPlaces64", recurses := true, apart := false, narrowed := true }
def FnPlaces64UptoSaid : Prop := fnPlaces64UptoRow.holds Try.pinned (OpenSpec.upto fnPlaces64Spec)

/-- 'laws.FnTurned32', WHERE WHAT IT READS IS OF BULK AT MOST 1048576: true; the input reads as it did. -/
def fnTurned32UptoRow : OpenClaim := { program := "ytpennngcehbioaa", sum := "a6bc7d2789401e49692f32ff66f2e2add8fc881aa2d488a00c8db1d578b57590", func := "loop.example/pub-g03124/laws.FnTurned32", spec := "fnTurned32", recurses := true, apart := false, narrowed := true }
def FnTurned32UptoSaid : Prop := fnTurned32UptoRow.holds Try.pinned (OpenSpec.upto fnTurned32Spec)

/-- 'laws.FnTurned64', WHERE WHAT IT READS IS OF BULK AT MOST 1048576: true; the input reads as it did. -/
def fnTurned64UptoRow : OpenClaim := { program := "ytpennngcehbioaa", sum := "a6bc7d2789401e49692f32ff66f2e2add8fc881aa2d488a00c8db1d578b57590", func := "loop.example/pub-g03124/laws.FnTurned64", spec := "fnTurned64", recurses := true, apart := false, narrowed := true }
def FnTurned64UptoSaid : Prop := fnTurned64UptoRow.holds Try.pinned (OpenSpec.upto fnTurned64Spec)

/-- 'laws.FnAscending32', WHERE WHAT IT READS IS OF BULK AT MOST 1048576: true; the input reads as it did. -/
def fnAscending32UptoRow : OpenClaim := { program := "ytpennngcehbioaa", sum := "a6bc7d2789401e49692f32ff66f2e2add8fc881aa2d488a00c8db1d578b57590", func := "loop.example/pub-g03124/laws.FnAscending32", spec := "fnAscending32", inPlace := ["internal/bytealg.Compare"], recurses := true, apart := false, narrowed := true }
def FnAscending32UptoSaid : Prop := fnAscending32UptoRow.holds Try.pinned (OpenSpec.upto fnAscending32Spec)

/-- 'laws.FnAscending64', WHERE WHAT IT READS IS OF BULK AT MOST 1048576: true; the input reads as it did. -/
def fnAscending64UptoRow : OpenClaim := { program := "ytpennngcehbioaa", sum := "a6bc7d2789401e49692f32ff66f2e2add8fc881aa2d488a00c8db1d578b57590", func := "loop.example/pub-g03124/laws.FnAscending64", spec := "fnAscending64", inPlace := ["internal/bytealg.Compare"], recurses := true, apart := false, narrowed := true }
def FnAscending64UptoSaid : Prop := fnAscending64UptoRow.holds Try.pinned (OpenSpec.upto fnAscending64Spec)

/-- 'laws.FnArray32', WHERE WHAT IT READS IS OF BULK AT MOST 1048576: true; the input reads as it did. -/
def fnArray32UptoRow : OpenClaim := { program := "ytpennngcehbioaa", sum := "a6bc7d2789401e49692f32ff66f2e2add8fc881aa2d488a00c8db1d578b57590", func := "loop.example/pub-g03124/laws.FnArray32", spec := "fnArray32", inPlace := ["internal/bytealg.Compare"], unfollowed := true, recurses := true, apart := false, narrowed := true }
def FnArray32UptoSaid : Prop := fnArray32UptoRow.holds Try.pinned (OpenSpec.upto fnArray32Spec)

/-- 'laws.FnArray64', WHERE WHAT IT READS IS OF BULK AT MOST 1048576: true; the input reads as it did. -/
def fnArray64UptoRow : OpenClaim := { program := "ytpennngcehbioaa", sum := "a6bc7d2789401e49692f32ff66f2e2add8fc881aa2d488a00c8db1d578b57590", func := "loop.example/pub-g03124/laws.FnArray64", spec := "fnArray64", inPlace := ["internal/bytealg.Compare"], unfollowed := true, recurses := true, apart := false, narrowed := true }
def FnArray64UptoSaid : Prop := fnArray64UptoRow.holds Try.pinned (OpenSpec.upto fnArray64Spec)

end Rows
end Go.Proofs.Ytpennngcehbioaa
