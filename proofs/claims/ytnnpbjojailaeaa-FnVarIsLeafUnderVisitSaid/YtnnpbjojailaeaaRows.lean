/-
  No cell of these rows narrows 'for every input' (looked for: loops, veiled, ifaces, maps, wideKeys, modest, calm, conditions, laid).
  DERIVED. THE GIVEN ROWS OF THIS SEAT. 4 by the template 'for every input the law returns true; each argument reads behind the call as it read before'; 0 by the template 'total and deterministic' (their statements: YtnnpbjojailaeaaTotals.lean).
  GIVEN WITH THE SEED: the statements are not yours to turn. If you find one false, say at which input.
  Laid BY PROGRAM, IN A SANDBOX (cutbox-rows.mjs): the forced cells as the released guide's own fill.sh prints them over the translation 97817eef1441d4ae… (all of the seat's roots in one cut). By AI agents, Wed Nov 11 2026. No macro, syntax, notation, axiom, sorry.
-/
import Derived.Test.YtnnpbjojailaeaaChecked
import GoSem.Claim
import GoSem.ClaimJoined
import GoSem.ClaimMapViews
import Derived.JoinedTies
import Derived.KernelRfl
namespace Go.Proofs.Ytnnpbjojailaeaa
/- THE CELL 'sum', in the pinned program and in every row, IS THE sha256 OF THE DUMP (.gsa) THAT YtnnpbjojailaeaaProg.lean LOADS. Nothing in Lean hashes anything: it is a label: what it is worth is what the hold of that sum in a sandbox is worth. -/
noncomputable def Try.pinned : Pinned := { name := "ytnnpbjojailaeaa", sum := "97817eef1441d4aeb4225d637d5f5c1f5da6c47214bedafa9304cd80c8ccbeb5", checked := Try.checked }
namespace Rows
def none {H : Type} : Left H := { results := [], args := [] }

/-- 'n008_69.FnVisitDispatchesSlice': WHATEVER THE INPUT: true; the input reads as it did. -/
def fnVisitDispatchesSliceSpec : ChangeSpec := { name := "fnVisitDispatchesSlice", fn := fun _ => fun
  | [d1, d2, d3] => { results := [.lit (.bool true)], args := [d1, d2, d3] }
  | _ => none }
def fnVisitDispatchesSliceRow : OpenClaim := { program := "ytnnpbjojailaeaa", sum := "97817eef1441d4aeb4225d637d5f5c1f5da6c47214bedafa9304cd80c8ccbeb5", func := "github.com/google/go-jsonnet/n008_69.FnVisitDispatchesSlice", spec := "fnVisitDispatchesSlice", unfollowed := true, recurses := true, apart := false }
def FnVisitDispatchesSliceSaid : Prop := fnVisitDispatchesSliceRow.holds Try.pinned (OpenSpec.ofChange fnVisitDispatchesSliceSpec)

/-- ITS FALSE NEIGHBOUR: 'it returns false'. Refute it at one input. -/
def fnVisitDispatchesSliceWrong : ChangeSpec := { name := "fnVisitDispatchesSlice", fn := fun _ => fun
  | [d1, d2, d3] => { results := [.lit (.bool false)], args := [d1, d2, d3] }
  | _ => none }
def FnVisitDispatchesSliceWrongFalsely : Prop := fnVisitDispatchesSliceRow.holds Try.pinned (OpenSpec.ofChange fnVisitDispatchesSliceWrong)

/-- 'n008_69.FnVisitDispatchesSuperIndex': WHATEVER THE INPUT: true; the input reads as it did. -/
def fnVisitDispatchesSuperIndexSpec : ChangeSpec := { name := "fnVisitDispatchesSuperIndex", fn := fun _ => fun
  | [d1, d2] => { results := [.lit (.bool true)], args := [d1, d2] }
  | _ => none }
def fnVisitDispatchesSuperIndexRow : OpenClaim := { program := "ytnnpbjojailaeaa", sum := "97817eef1441d4aeb4225d637d5f5c1f5da6c47214bedafa9304cd80c8ccbeb5", func := "github.com/google/go-jsonnet/n008_69.FnVisitDispatchesSuperIndex", spec := "fnVisitDispatchesSuperIndex", unfollowed := true, recurses := true, apart := false }
def FnVisitDispatchesSuperIndexSaid : Prop := fnVisitDispatchesSuperIndexRow.holds Try.pinned (OpenSpec.ofChange fnVisitDispatchesSuperIndexSpec)

/-- ITS FALSE NEIGHBOUR: 'it returns false'. Refute it at one input. -/
def fnVisitDispatchesSuperIndexWrong : ChangeSpec := { name := "fnVisitDispatchesSuperIndex", fn := fun _ => fun
  | [d1, d2] => { results := [.lit (.bool false)], args := [d1, d2] }
  | _ => none }
def FnVisitDispatchesSuperIndexWrongFalsely : Prop := fnVisitDispatchesSuperIndexRow.holds Try.pinned (OpenSpec.ofChange fnVisitDispatchesSuperIndexWrong)

/-- 'n008_69.FnVisitDispatchesUnary': WHATEVER THE INPUT: true; the input reads as it did. -/
def fnVisitDispatchesUnarySpec : ChangeSpec := { name := "fnVisitDispatchesUnary", fn := fun _ => fun
  | [d] => { results := [.lit (.bool true)], args := [d] }
  | _ => none }
def fnVisitDispatchesUnaryRow : OpenClaim := { program := "ytnnpbjojailaeaa", sum := "97817eef1441d4aeb4225d637d5f5c1f5da6c47214bedafa9304cd80c8ccbeb5", func := "github.com/google/go-jsonnet/n008_69.FnVisitDispatchesUnary", spec := "fnVisitDispatchesUnary", unfollowed := true, recurses := true, apart := false }
def FnVisitDispatchesUnarySaid : Prop := fnVisitDispatchesUnaryRow.holds Try.pinned (OpenSpec.ofChange fnVisitDispatchesUnarySpec)

/-- ITS FALSE NEIGHBOUR: 'it returns false'. Refute it at one input. -/
def fnVisitDispatchesUnaryWrong : ChangeSpec := { name := "fnVisitDispatchesUnary", fn := fun _ => fun
  | [d] => { results := [.lit (.bool false)], args := [d] }
  | _ => none }
def FnVisitDispatchesUnaryWrongFalsely : Prop := fnVisitDispatchesUnaryRow.holds Try.pinned (OpenSpec.ofChange fnVisitDispatchesUnaryWrong)

/-- 'n008_69.FnVarIsLeafUnderVisit': WHATEVER THE INPUT: true; the input reads as it did. -/
def fnVarIsLeafUnderVisitSpec : ChangeSpec := { name := "fnVarIsLeafUnderVisit", fn := fun _ => fun
  | [d] => { results := [.lit (.bool true)], args := [d] }
  | _ => none }
def fnVarIsLeafUnderVisitRow : OpenClaim := { program := "ytnnpbjojailaeaa", sum := "97817eef1441d4aeb4225d637d5f5c1f5da6c47214bedafa9304cd80c8ccbeb5", func := "github.com/google/go-jsonnet/n008_69.FnVarIsLeafUnderVisit", spec := "fnVarIsLeafUnderVisit", unfollowed := true, recurses := true, apart := false }
def FnVarIsLeafUnderVisitSaid : Prop := fnVarIsLeafUnderVisitRow.holds Try.pinned (OpenSpec.ofChange fnVarIsLeafUnderVisitSpec)

/-- ITS FALSE NEIGHBOUR: 'it returns false'. Refute it at one input. -/
def fnVarIsLeafUnderVisitWrong : ChangeSpec := { name := "fnVarIsLeafUnderVisit", fn := fun _ => fun
  | [d] => { results := [.lit (.bool false)], args := [d] }
  | _ => none }
def FnVarIsLeafUnderVisitWrongFalsely : Prop := fnVarIsLeafUnderVisitRow.holds Try.pinned (OpenSpec.ofChange fnVarIsLeafUnderVisitWrong)

/- THE SECOND FORM. 'bulk': how many values and letters a reading holds, each counted each time it is reached (what is shared counts as often as it is met; a slice's spare places count too). A statement '..UptoSaid' is the law's where the arguments, and the package variables that the reading takes, are together of bulk at most 1048576: NARROWER than '..Said'. Prove '..Said' where nothing that the law and all that it calls make is longer than what came in: it says more and counts as full. Else prove '..UptoSaid'. A law counts once. -/
mutual
def uptoBulk {H : Type} : DataW H → Nat
  | .lit (.string bytes) => bytes.length + 1
  | .lit _ => 1
  | .nil => 1
  | .ptr d => uptoBulk d + 1
  | .slice elems spare => uptoBulkAll elems + uptoBulkAll spare + 1
  | .agg parts => uptoBulkAll parts + 1
  | .iface _ d => uptoBulk d + 1
  | .map entries => uptoBulkEntries entries + 1
  | .held _ => 1
def uptoBulkAll {H : Type} : List (DataW H) → Nat
  | [] => 0
  | d :: r => uptoBulk d + uptoBulkAll r
def uptoBulkEntries {H : Type} : List (Lit × DataW H) → Nat
  | [] => 0
  | x :: r => uptoBulkEntry x + uptoBulkEntries r
def uptoBulkEntry {H : Type} : Lit × DataW H → Nat
  | (.string bytes, d) => bytes.length + uptoBulk d + 1
  | (_, d) => uptoBulk d + 1
 end
def uptoSmall : (H : Type) → List (DataW H) → Bool := fun _ ds => decide (uptoBulkAll ds ≤ 1048576)
def OpenSpec.upto (s : _root_.Go.ChangeSpec) : _root_.Go.OpenSpec := { _root_.Go.OpenSpec.ofChange s with cond := some uptoSmall }

/-- 'n008_69.FnVisitDispatchesSlice', WHERE WHAT IT READS IS OF BULK AT MOST 1048576: true; the input reads as it did. -/
def fnVisitDispatchesSliceUptoRow : OpenClaim := { program := "ytnnpbjojailaeaa", sum := "97817eef1441d4aeb4225d637d5f5c1f5da6c47214bedafa9304cd80c8ccbeb5", func := "github.com/google/go-jsonnet/n008_69.FnVisitDispatchesSlice", spec := "fnVisitDispatchesSlice", unfollowed := true, recurses := true, apart := false, narrowed := true }
def FnVisitDispatchesSliceUptoSaid : Prop := fnVisitDispatchesSliceUptoRow.holds Try.pinned (OpenSpec.upto fnVisitDispatchesSliceSpec)

/-- 'n008_69.FnVisitDispatchesSuperIndex', WHERE WHAT IT READS IS OF BULK AT MOST 1048576: true; the input reads as it did. -/
def fnVisitDispatchesSuperIndexUptoRow : OpenClaim := { program := "ytnnpbjojailaeaa", sum := "97817eef1441d4aeb4225d637d5f5c1f5da6c47214bedafa9304cd80c8ccbeb5", func := "github.com/google/go-jsonnet/n008_69.FnVisitDispatchesSuperIndex", spec := "fnVisitDispatchesSuperIndex", unfollowed := true, recurses := true, apart := false, narrowed := true }
def FnVisitDispatchesSuperIndexUptoSaid : Prop := fnVisitDispatchesSuperIndexUptoRow.holds Try.pinned (OpenSpec.upto fnVisitDispatchesSuperIndexSpec)

/-- 'n008_69.FnVisitDispatchesUnary', WHERE WHAT IT READS IS OF BULK AT MOST 1048576: true; the input reads as it did. -/
def fnVisitDispatchesUnaryUptoRow : OpenClaim := { program := "ytnnpbjojailaeaa", sum := "97817eef1441d4aeb4225d637d5f5c1f5da6c47214bedafa9304cd80c8ccbeb5", func := "github.com/google/go-jsonnet/n008_69.FnVisitDispatchesUnary", spec := "fnVisitDispatchesUnary", unfollowed := true, recurses := true, apart := false, narrowed := true }
def FnVisitDispatchesUnaryUptoSaid : Prop := fnVisitDispatchesUnaryUptoRow.holds Try.pinned (OpenSpec.upto fnVisitDispatchesUnarySpec)

/-- 'n008_69.FnVarIsLeafUnderVisit', WHERE WHAT IT READS IS OF BULK AT MOST 1048576: true; the input reads as it did. -/
def fnVarIsLeafUnderVisitUptoRow : OpenClaim := { program := "ytnnpbjojailaeaa", sum := "97817eef1441d4aeb4225d637d5f5c1f5da6c47214bedafa9304cd80c8ccbeb5", func := "github.com/google/go-jsonnet/n008_69.FnVarIsLeafUnderVisit", spec := "fnVarIsLeafUnderVisit", unfollowed := true, recurses := true, apart := false, narrowed := true }
def FnVarIsLeafUnderVisitUptoSaid : Prop := fnVarIsLeafUnderVisitUptoRow.holds Try.pinned (OpenSpec.upto fnVarIsLeafUnderVisitSpec)

end Rows
end Go.Proofs.Ytnnpbjojailaeaa
