/-
  No cell of these rows narrows 'for every input' (looked for: loops, veiled, ifaces, maps, wideKeys, modest, calm, conditions, laid).
  DERIVED. THE GIVEN ROWS OF THIS SEAT. 5 by the template 'for every input the law returns true; each argument reads behind the call as it read before'; 0 by the template 'total and deterministic' (their statements: YtfmmpllnhmehnaaTotals.lean).
  GIVEN WITH THE SEED: the statements are not yours to turn. If you find one false, say at which input.
  Laid BY PROGRAM, IN A SANDBOX (cutbox-rows.mjs): the forced cells as the released guide's own fill.sh prints them over the translation 541f5c130cf827f9… (all of the seat's roots in one cut). By AI agents, Wed Nov 11 2026. No macro, syntax, notation, axiom, sorry.
-/
import Derived.Test.YtfmmpllnhmehnaaChecked
import GoSem.Claim
import GoSem.ClaimJoined
import GoSem.ClaimMapViews
import Derived.JoinedTies
import Derived.KernelRfl
namespace Go.Proofs.Ytfmmpllnhmehnaa
/- THE CELL 'sum', in the pinned program and in every row, IS THE sha256 OF THE DUMP (.gsa) THAT YtfmmpllnhmehnaaProg.lean LOADS. Nothing in Lean hashes anything: it is a label: what it is worth is what the hold of that sum in a sandbox is worth. -/
noncomputable def Try.pinned : Pinned := { name := "ytfmmpllnhmehnaa", sum := "541f5c130cf827f9fa1b0ca676c9e51542c504a11e79eb01276e964644d094bf", checked := Try.checked }
namespace Rows
def none {H : Type} : Left H := { results := [], args := [] }

/-- 'n008_146.FnFileSeesTreeThenFinalFodder': WHATEVER THE INPUT: true; the input reads as it did. -/
def fnFileSeesTreeThenFinalFodderSpec : ChangeSpec := { name := "fnFileSeesTreeThenFinalFodder", fn := fun _ => fun
  | [d1, d2, d3] => { results := [.lit (.bool true)], args := [d1, d2, d3] }
  | _ => none }
def fnFileSeesTreeThenFinalFodderRow : OpenClaim := { program := "ytfmmpllnhmehnaa", sum := "541f5c130cf827f9fa1b0ca676c9e51542c504a11e79eb01276e964644d094bf", func := "github.com/google/go-jsonnet/n008_146.FnFileSeesTreeThenFinalFodder", spec := "fnFileSeesTreeThenFinalFodder", unfollowed := true, recurses := true, apart := false }
def FnFileSeesTreeThenFinalFodderSaid : Prop := fnFileSeesTreeThenFinalFodderRow.holds Try.pinned (OpenSpec.ofChange fnFileSeesTreeThenFinalFodderSpec)

/-- ITS FALSE NEIGHBOUR: 'it returns false'. Refute it at one input. -/
def fnFileSeesTreeThenFinalFodderWrong : ChangeSpec := { name := "fnFileSeesTreeThenFinalFodder", fn := fun _ => fun
  | [d1, d2, d3] => { results := [.lit (.bool false)], args := [d1, d2, d3] }
  | _ => none }
def FnFileSeesTreeThenFinalFodderWrongFalsely : Prop := fnFileSeesTreeThenFinalFodderRow.holds Try.pinned (OpenSpec.ofChange fnFileSeesTreeThenFinalFodderWrong)

/-- 'n008_146.FnBaseFileLeavesFileAsBuilt': WHATEVER THE INPUT: true; the input reads as it did. -/
def fnBaseFileLeavesFileAsBuiltSpec : ChangeSpec := { name := "fnBaseFileLeavesFileAsBuilt", fn := fun _ => fun
  | [d1, d2, d3] => { results := [.lit (.bool true)], args := [d1, d2, d3] }
  | _ => none }
def fnBaseFileLeavesFileAsBuiltRow : OpenClaim := { program := "ytfmmpllnhmehnaa", sum := "541f5c130cf827f9fa1b0ca676c9e51542c504a11e79eb01276e964644d094bf", func := "github.com/google/go-jsonnet/n008_146.FnBaseFileLeavesFileAsBuilt", spec := "fnBaseFileLeavesFileAsBuilt", unfollowed := true, recurses := true, apart := false }
def FnBaseFileLeavesFileAsBuiltSaid : Prop := fnBaseFileLeavesFileAsBuiltRow.holds Try.pinned (OpenSpec.ofChange fnBaseFileLeavesFileAsBuiltSpec)

/-- ITS FALSE NEIGHBOUR: 'it returns false'. Refute it at one input. -/
def fnBaseFileLeavesFileAsBuiltWrong : ChangeSpec := { name := "fnBaseFileLeavesFileAsBuilt", fn := fun _ => fun
  | [d1, d2, d3] => { results := [.lit (.bool false)], args := [d1, d2, d3] }
  | _ => none }
def FnBaseFileLeavesFileAsBuiltWrongFalsely : Prop := fnBaseFileLeavesFileAsBuiltRow.holds Try.pinned (OpenSpec.ofChange fnBaseFileLeavesFileAsBuiltWrong)

/-- 'n008_146.FnBaseVisitLeavesTreeAsBuilt': WHATEVER THE INPUT: true; the input reads as it did. -/
def fnBaseVisitLeavesTreeAsBuiltSpec : ChangeSpec := { name := "fnBaseVisitLeavesTreeAsBuilt", fn := fun _ => fun
  | [d1, d2] => { results := [.lit (.bool true)], args := [d1, d2] }
  | _ => none }
def fnBaseVisitLeavesTreeAsBuiltRow : OpenClaim := { program := "ytfmmpllnhmehnaa", sum := "541f5c130cf827f9fa1b0ca676c9e51542c504a11e79eb01276e964644d094bf", func := "github.com/google/go-jsonnet/n008_146.FnBaseVisitLeavesTreeAsBuilt", spec := "fnBaseVisitLeavesTreeAsBuilt", unfollowed := true, recurses := true, apart := false }
def FnBaseVisitLeavesTreeAsBuiltSaid : Prop := fnBaseVisitLeavesTreeAsBuiltRow.holds Try.pinned (OpenSpec.ofChange fnBaseVisitLeavesTreeAsBuiltSpec)

/-- ITS FALSE NEIGHBOUR: 'it returns false'. Refute it at one input. -/
def fnBaseVisitLeavesTreeAsBuiltWrong : ChangeSpec := { name := "fnBaseVisitLeavesTreeAsBuilt", fn := fun _ => fun
  | [d1, d2] => { results := [.lit (.bool false)], args := [d1, d2] }
  | _ => none }
def FnBaseVisitLeavesTreeAsBuiltWrongFalsely : Prop := fnBaseVisitLeavesTreeAsBuiltRow.holds Try.pinned (OpenSpec.ofChange fnBaseVisitLeavesTreeAsBuiltWrong)

/-- 'n008_146.FnVisitSeesEveryFodderOnceInSourceOrder': WHATEVER THE INPUT: true; the input reads as it did. -/
def fnVisitSeesEveryFodderOnceInSourceOrderSpec : ChangeSpec := { name := "fnVisitSeesEveryFodderOnceInSourceOrder", fn := fun _ => fun
  | [d1, d2] => { results := [.lit (.bool true)], args := [d1, d2] }
  | _ => none }
def fnVisitSeesEveryFodderOnceInSourceOrderRow : OpenClaim := { program := "ytfmmpllnhmehnaa", sum := "541f5c130cf827f9fa1b0ca676c9e51542c504a11e79eb01276e964644d094bf", func := "github.com/google/go-jsonnet/n008_146.FnVisitSeesEveryFodderOnceInSourceOrder", spec := "fnVisitSeesEveryFodderOnceInSourceOrder", unfollowed := true, recurses := true, apart := false }
def FnVisitSeesEveryFodderOnceInSourceOrderSaid : Prop := fnVisitSeesEveryFodderOnceInSourceOrderRow.holds Try.pinned (OpenSpec.ofChange fnVisitSeesEveryFodderOnceInSourceOrderSpec)

/-- ITS FALSE NEIGHBOUR: 'it returns false'. Refute it at one input. -/
def fnVisitSeesEveryFodderOnceInSourceOrderWrong : ChangeSpec := { name := "fnVisitSeesEveryFodderOnceInSourceOrder", fn := fun _ => fun
  | [d1, d2] => { results := [.lit (.bool false)], args := [d1, d2] }
  | _ => none }
def FnVisitSeesEveryFodderOnceInSourceOrderWrongFalsely : Prop := fnVisitSeesEveryFodderOnceInSourceOrderRow.holds Try.pinned (OpenSpec.ofChange fnVisitSeesEveryFodderOnceInSourceOrderWrong)

/-- 'n008_146.FnFileHandsBaseContextToEveryCallback': WHATEVER THE INPUT: true; the input reads as it did. -/
def fnFileHandsBaseContextToEveryCallbackSpec : ChangeSpec := { name := "fnFileHandsBaseContextToEveryCallback", fn := fun _ => fun
  | [d1, d2, d3] => { results := [.lit (.bool true)], args := [d1, d2, d3] }
  | _ => none }
def fnFileHandsBaseContextToEveryCallbackRow : OpenClaim := { program := "ytfmmpllnhmehnaa", sum := "541f5c130cf827f9fa1b0ca676c9e51542c504a11e79eb01276e964644d094bf", func := "github.com/google/go-jsonnet/n008_146.FnFileHandsBaseContextToEveryCallback", spec := "fnFileHandsBaseContextToEveryCallback", unfollowed := true, recurses := true, apart := false }
def FnFileHandsBaseContextToEveryCallbackSaid : Prop := fnFileHandsBaseContextToEveryCallbackRow.holds Try.pinned (OpenSpec.ofChange fnFileHandsBaseContextToEveryCallbackSpec)

/-- ITS FALSE NEIGHBOUR: 'it returns false'. Refute it at one input. -/
def fnFileHandsBaseContextToEveryCallbackWrong : ChangeSpec := { name := "fnFileHandsBaseContextToEveryCallback", fn := fun _ => fun
  | [d1, d2, d3] => { results := [.lit (.bool false)], args := [d1, d2, d3] }
  | _ => none }
def FnFileHandsBaseContextToEveryCallbackWrongFalsely : Prop := fnFileHandsBaseContextToEveryCallbackRow.holds Try.pinned (OpenSpec.ofChange fnFileHandsBaseContextToEveryCallbackWrong)

/- THE SECOND FORM. 'bulk': how many values and letters a reading holds, each counted each time it is reached (what is shared counts as often as it is met; a slice's spare places count too). A statement '..UptoSaid' is the law's where the arguments, and the package variables that the reading takes, are together of bulk at most 1048576: NARROWER than '..Said'. Prove '..Said' where nothing that the law and all that it calls make is longer than what came in: it says more and counts as full. Else prove '..UptoSaid'. A law counts once. -/
mutual
def uptoBulk {H : Type} : DataW H → Nat
  | .lit (.string bytes) => bytes.length + 1
  | .lit _ => 1
  | .nil => 1
  | .ptr d => uptoBulk d + 1
  | .slice elems spare => uptoBulkAll elems + uptoBulkAll spare + 1
  | .agg parts => uptoBulkAll parts + 1
  | .iface _ d => uptoBulk d + 1
  | .map entries => uptoBulkEntries entries + 1
  | .held _ => 1
def uptoBulkAll {H : Type} : List (DataW H) → Nat
  | [] => 0
  | d :: r => uptoBulk d + uptoBulkAll r
def uptoBulkEntries {H : Type} : List (Lit × DataW H) → Nat
  | [] => 0
  | x :: r => uptoBulkEntry x + uptoBulkEntries r
def uptoBulkEntry {H : Type} : Lit × DataW H → Nat
  | (.string bytes, d) => bytes.length + uptoBulk d + 1
  | (_, d) => uptoBulk d + 1
 end
def uptoSmall : (H : Type) → List (DataW H) → Bool := fun _ ds => decide (uptoBulkAll ds ≤ 1048576)
def OpenSpec.upto (s : _root_.Go.ChangeSpec) : _root_.Go.OpenSpec := { _root_.Go.OpenSpec.ofChange s with cond := some uptoSmall }

/-- 'n008_146.FnFileSeesTreeThenFinalFodder', WHERE WHAT IT READS IS OF BULK AT MOST 1048576: true; the input reads as it did. -/
def fnFileSeesTreeThenFinalFodderUptoRow : OpenClaim := { program := "ytfmmpllnhmehnaa", sum := "541f5c130cf827f9fa1b0ca676c9e51542c504a11e79eb01276e964644d094bf", func := "github.com/google/go-jsonnet/n008_146.FnFileSeesTreeThenFinalFodder", spec := "fnFileSeesTreeThenFinalFodder", unfollowed := true, recurses := true, apart := false, narrowed := true }
def FnFileSeesTreeThenFinalFodderUptoSaid : Prop := fnFileSeesTreeThenFinalFodderUptoRow.holds Try.pinned (OpenSpec.upto fnFileSeesTreeThenFinalFodderSpec)

/-- 'n008_146.FnBaseFileLeavesFileAsBuilt', WHERE WHAT IT READS IS OF BULK AT MOST 1048576: true; the input reads as it did. -/
def fnBaseFileLeavesFileAsBuiltUptoRow : OpenClaim := { program := "ytfmmpllnhmehnaa", sum := "541f5c130cf827f9fa1b0ca676c9e51542c504a11e79eb01276e964644d094bf", func := "github.com/google/go-jsonnet/n008_146.FnBaseFileLeavesFileAsBuilt", spec := "fnBaseFileLeavesFileAsBuilt", unfollowed := true, recurses := true, apart := false, narrowed := true }
def FnBaseFileLeavesFileAsBuiltUptoSaid : Prop := fnBaseFileLeavesFileAsBuiltUptoRow.holds Try.pinned (OpenSpec.upto fnBaseFileLeavesFileAsBuiltSpec)

/-- 'n008_146.FnBaseVisitLeavesTreeAsBuilt', WHERE WHAT IT READS IS OF BULK AT MOST 1048576: true; the input reads as it did. -/
def fnBaseVisitLeavesTreeAsBuiltUptoRow : OpenClaim := { program := "ytfmmpllnhmehnaa", sum := "541f5c130cf827f9fa1b0ca676c9e51542c504a11e79eb01276e964644d094bf", func := "github.com/google/go-jsonnet/n008_146.FnBaseVisitLeavesTreeAsBuilt", spec := "fnBaseVisitLeavesTreeAsBuilt", unfollowed := true, recurses := true, apart := false, narrowed := true }
def FnBaseVisitLeavesTreeAsBuiltUptoSaid : Prop := fnBaseVisitLeavesTreeAsBuiltUptoRow.holds Try.pinned (OpenSpec.upto fnBaseVisitLeavesTreeAsBuiltSpec)

/-- 'n008_146.FnVisitSeesEveryFodderOnceInSourceOrder', WHERE WHAT IT READS IS OF BULK AT MOST 1048576: true; the input reads as it did. -/
def fnVisitSeesEveryFodderOnceInSourceOrderUptoRow : OpenClaim := { program := "ytfmmpllnhmehnaa", sum := "541f5c130cf827f9fa1b0ca676c9e51542c504a11e79eb01276e964644d094bf", func := "github.com/google/go-jsonnet/n008_146.FnVisitSeesEveryFodderOnceInSourceOrder", spec := "fnVisitSeesEveryFodderOnceInSourceOrder", unfollowed := true, recurses := true, apart := false, narrowed := true }
def FnVisitSeesEveryFodderOnceInSourceOrderUptoSaid : Prop := fnVisitSeesEveryFodderOnceInSourceOrderUptoRow.holds Try.pinned (OpenSpec.upto fnVisitSeesEveryFodderOnceInSourceOrderSpec)

/-- 'n008_146.FnFileHandsBaseContextToEveryCallback', WHERE WHAT IT READS IS OF BULK AT MOST 1048576: true; the input reads as it did. -/
def fnFileHandsBaseContextToEveryCallbackUptoRow : OpenClaim := { program := "ytfmmpllnhmehnaa", sum := "541f5c130cf827f9fa1b0ca676c9e51542c504a11e79eb01276e964644d094bf", func := "github.com/google/go-jsonnet/n008_146.FnFileHandsBaseContextToEveryCallback", spec := "fnFileHandsBaseContextToEveryCallback", unfollowed := true, recurses := true, apart := false, narrowed := true }
def FnFileHandsBaseContextToEveryCallbackUptoSaid : Prop := fnFileHandsBaseContextToEveryCallbackUptoRow.holds Try.pinned (OpenSpec.upto fnFileHandsBaseContextToEveryCallbackSpec)

end Rows
end Go.Proofs.Ytfmmpllnhmehnaa
