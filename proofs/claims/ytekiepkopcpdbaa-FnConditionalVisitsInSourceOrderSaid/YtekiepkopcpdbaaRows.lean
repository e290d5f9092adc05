/-
  No cell of these rows narrows 'for every input' (looked for: loops, veiled, ifaces, maps, wideKeys, modest, calm, conditions, laid).
  DERIVED. THE GIVEN ROWS OF THIS SEAT. 7 by the template 'for every input the law returns true; each argument reads behind the call as it read before'; 0 by the template 'total and deterministic' (their statements: YtekiepkopcpdbaaTotals.lean).
  GIVEN WITH THE SEED: the statements are not yours to turn. If you find one false, say at which input.
  Laid BY PROGRAM, IN A SANDBOX (cutbox-rows.mjs): the forced cells as the released guide's own fill.sh prints them over the translation 6f47be0a94e4901a… (all of the seat's roots in one cut). By AI agents, Wed Nov 11 2026. No macro, syntax, notation, axiom, sorry.
-/
import Derived.Test.YtekiepkopcpdbaaChecked
import GoSem.Claim
import GoSem.ClaimJoined
import GoSem.ClaimMapViews
import Derived.JoinedTies
import Derived.KernelRfl
namespace Go.Proofs.Ytekiepkopcpdbaa
/- THE CELL 'sum', in the pinned program and in every row, IS THE sha256 OF THE DUMP (.gsa) THAT YtekiepkopcpdbaaProg.lean LOADS. Nothing in Lean hashes anything: it is a label: what it is worth is what the hold of that sum in a sandbox is worth. -/
noncomputable def Try.pinned : Pinned := { name := "ytekiepkopcpdbaa", sum := "6f47be0a94e4901a0e14d6ae31847020c9d4342815b7eeab832d48a46b026aed", checked := Try.checked }
namespace Rows
def none {H : Type} : Left H := { results := [], args := [] }

/-- 'n008_51.FnAssertVisitsChildrenInSourceOrder': WHATEVER THE INPUT: true; the input reads as it did. -/
def fnAssertVisitsChildrenInSourceOrderSpec : ChangeSpec := { name := "fnAssertVisitsChildrenInSourceOrder", fn := fun _ => fun
  | [d1, d2] => { results := [.lit (.bool true)], args := [d1, d2] }
  | _ => none }
def fnAssertVisitsChildrenInSourceOrderRow : OpenClaim := { program := "ytekiepkopcpdbaa", sum := "6f47be0a94e4901a0e14d6ae31847020c9d4342815b7eeab832d48a46b026aed", func := "github.com/google/go-jsonnet/n008_51.FnAssertVisitsChildrenInSourceOrder", spec := "fnAssertVisitsChildrenInSourceOrder", unfollowed := true, recurses := true, apart := false }
def FnAssertVisitsChildrenInSourceOrderSaid : Prop := fnAssertVisitsChildrenInSourceOrderRow.holds Try.pinned (OpenSpec.ofChange fnAssertVisitsChildrenInSourceOrderSpec)

/-- ITS FALSE NEIGHBOUR: 'it returns false'. Refute it at one input. -/
def fnAssertVisitsChildrenInSourceOrderWrong : ChangeSpec := { name := "fnAssertVisitsChildrenInSourceOrder", fn := fun _ => fun
  | [d1, d2] => { results := [.lit (.bool false)], args := [d1, d2] }
  | _ => none }
def FnAssertVisitsChildrenInSourceOrderWrongFalsely : Prop := fnAssertVisitsChildrenInSourceOrderRow.holds Try.pinned (OpenSpec.ofChange fnAssertVisitsChildrenInSourceOrderWrong)

/-- 'n008_51.FnConditionalVisitsInSourceOrder': WHATEVER THE INPUT: true; the input reads as it did. -/
def fnConditionalVisitsInSourceOrderSpec : ChangeSpec := { name := "fnConditionalVisitsInSourceOrder", fn := fun _ => fun
  | [d1, d2] => { results := [.lit (.bool true)], args := [d1, d2] }
  | _ => none }
def fnConditionalVisitsInSourceOrderRow : OpenClaim := { program := "ytekiepkopcpdbaa", sum := "6f47be0a94e4901a0e14d6ae31847020c9d4342815b7eeab832d48a46b026aed", func := "github.com/google/go-jsonnet/n008_51.FnConditionalVisitsInSourceOrder", spec := "fnConditionalVisitsInSourceOrder", unfollowed := true, recurses := true, apart := false }
def FnConditionalVisitsInSourceOrderSaid : Prop := fnConditionalVisitsInSourceOrderRow.holds Try.pinned (OpenSpec.ofChange fnConditionalVisitsInSourceOrderSpec)

/-- ITS FALSE NEIGHBOUR: 'it returns false'. Refute it at one input. -/
def fnConditionalVisitsInSourceOrderWrong : ChangeSpec := { name := "fnConditionalVisitsInSourceOrder", fn := fun _ => fun
  | [d1, d2] => { results := [.lit (.bool false)], args := [d1, d2] }
  | _ => none }
def FnConditionalVisitsInSourceOrderWrongFalsely : Prop := fnConditionalVisitsInSourceOrderRow.holds Try.pinned (OpenSpec.ofChange fnConditionalVisitsInSourceOrderWrong)

/-- 'n008_51.FnDollarBasePassLeavesNodeIntact': WHATEVER THE INPUT: true; the input reads as it did. -/
def fnDollarBasePassLeavesNodeIntactSpec : ChangeSpec := { name := "fnDollarBasePassLeavesNodeIntact", fn := fun _ => fun
  | [d1, d2, d3, d4] => { results := [.lit (.bool true)], args := [d1, d2, d3, d4] }
  | _ => none }
def fnDollarBasePassLeavesNodeIntactRow : OpenClaim := { program := "ytekiepkopcpdbaa", sum := "6f47be0a94e4901a0e14d6ae31847020c9d4342815b7eeab832d48a46b026aed", func := "github.com/google/go-jsonnet/n008_51.FnDollarBasePassLeavesNodeIntact", spec := "fnDollarBasePassLeavesNodeIntact", unfollowed := true, recurses := true, apart := false }
def FnDollarBasePassLeavesNodeIntactSaid : Prop := fnDollarBasePassLeavesNodeIntactRow.holds Try.pinned (OpenSpec.ofChange fnDollarBasePassLeavesNodeIntactSpec)

/-- ITS FALSE NEIGHBOUR: 'it returns false'. Refute it at one input. -/
def fnDollarBasePassLeavesNodeIntactWrong : ChangeSpec := { name := "fnDollarBasePassLeavesNodeIntact", fn := fun _ => fun
  | [d1, d2, d3, d4] => { results := [.lit (.bool false)], args := [d1, d2, d3, d4] }
  | _ => none }
def FnDollarBasePassLeavesNodeIntactWrongFalsely : Prop := fnDollarBasePassLeavesNodeIntactRow.holds Try.pinned (OpenSpec.ofChange fnDollarBasePassLeavesNodeIntactWrong)

/-- 'n008_51.FnBinaryVisitsLeftOpRight': WHATEVER THE INPUT: true; the input reads as it did. -/
def fnBinaryVisitsLeftOpRightSpec : ChangeSpec := { name := "fnBinaryVisitsLeftOpRight", fn := fun _ => fun
  | [d] => { results := [.lit (.bool true)], args := [d] }
  | _ => none }
def fnBinaryVisitsLeftOpRightRow : OpenClaim := { program := "ytekiepkopcpdbaa", sum := "6f47be0a94e4901a0e14d6ae31847020c9d4342815b7eeab832d48a46b026aed", func := "github.com/google/go-jsonnet/n008_51.FnBinaryVisitsLeftOpRight", spec := "fnBinaryVisitsLeftOpRight", unfollowed := true, recurses := true, apart := false }
def FnBinaryVisitsLeftOpRightSaid : Prop := fnBinaryVisitsLeftOpRightRow.holds Try.pinned (OpenSpec.ofChange fnBinaryVisitsLeftOpRightSpec)

/-- ITS FALSE NEIGHBOUR: 'it returns false'. Refute it at one input. -/
def fnBinaryVisitsLeftOpRightWrong : ChangeSpec := { name := "fnBinaryVisitsLeftOpRight", fn := fun _ => fun
  | [d] => { results := [.lit (.bool false)], args := [d] }
  | _ => none }
def FnBinaryVisitsLeftOpRightWrongFalsely : Prop := fnBinaryVisitsLeftOpRightRow.holds Try.pinned (OpenSpec.ofChange fnBinaryVisitsLeftOpRightWrong)

/-- 'n008_51.FnBinaryBasePassLeavesTreeIntact': WHATEVER THE INPUT: true; the input reads as it did. -/
def fnBinaryBasePassLeavesTreeIntactSpec : ChangeSpec := { name := "fnBinaryBasePassLeavesTreeIntact", fn := fun _ => fun
  | [d1, d2, d3, d4, d5, d6] => { results := [.lit (.bool true)], args := [d1, d2, d3, d4, d5, d6] }
  | _ => none }
def fnBinaryBasePassLeavesTreeIntactRow : OpenClaim := { program := "ytekiepkopcpdbaa", sum := "6f47be0a94e4901a0e14d6ae31847020c9d4342815b7eeab832d48a46b026aed", func := "github.com/google/go-jsonnet/n008_51.FnBinaryBasePassLeavesTreeIntact", spec := "fnBinaryBasePassLeavesTreeIntact", unfollowed := true, recurses := true, apart := false }
def FnBinaryBasePassLeavesTreeIntactSaid : Prop := fnBinaryBasePassLeavesTreeIntactRow.holds Try.pinned (OpenSpec.ofChange fnBinaryBasePassLeavesTreeIntactSpec)

/-- ITS FALSE NEIGHBOUR: 'it returns false'. Refute it at one input. -/
def fnBinaryBasePassLeavesTreeIntactWrong : ChangeSpec := { name := "fnBinaryBasePassLeavesTreeIntact", fn := fun _ => fun
  | [d1, d2, d3, d4, d5, d6] => { results := [.lit (.bool false)], args := [d1, d2, d3, d4, d5, d6] }
  | _ => none }
def FnBinaryBasePassLeavesTreeIntactWrongFalsely : Prop := fnBinaryBasePassLeavesTreeIntactRow.holds Try.pinned (OpenSpec.ofChange fnBinaryBasePassLeavesTreeIntactWrong)

/-- 'n008_51.FnAssertBasePassLeavesTreeIntact': WHATEVER THE INPUT: true; the input reads as it did. -/
def fnAssertBasePassLeavesTreeIntactSpec : ChangeSpec := { name := "fnAssertBasePassLeavesTreeIntact", fn := fun _ => fun
  | [d1, d2, d3, d4, d5, d6, d7] => { results := [.lit (.bool true)], args := [d1, d2, d3, d4, d5, d6, d7] }
  | _ => none }
def fnAssertBasePassLeavesTreeIntactRow : OpenClaim := { program := "ytekiepkopcpdbaa", sum := "6f47be0a94e4901a0e14d6ae31847020c9d4342815b7eeab832d48a46b026aed", func := "github.com/google/go-jsonnet/n008_51.FnAssertBasePassLeavesTreeIntact", spec := "fnAssertBasePassLeavesTreeIntact", unfollowed := true, recurses := true, apart := false }
def FnAssertBasePassLeavesTreeIntactSaid : Prop := fnAssertBasePassLeavesTreeIntactRow.holds Try.pinned (OpenSpec.ofChange fnAssertBasePassLeavesTreeIntactSpec)

/-- ITS FALSE NEIGHBOUR: 'it returns false'. Refute it at one input. -/
def fnAssertBasePassLeavesTreeIntactWrong : ChangeSpec := { name := "fnAssertBasePassLeavesTreeIntact", fn := fun _ => fun
  | [d1, d2, d3, d4, d5, d6, d7] => { results := [.lit (.bool false)], args := [d1, d2, d3, d4, d5, d6, d7] }
  | _ => none }
def FnAssertBasePassLeavesTreeIntactWrongFalsely : Prop := fnAssertBasePassLeavesTreeIntactRow.holds Try.pinned (OpenSpec.ofChange fnAssertBasePassLeavesTreeIntactWrong)

/-- 'n008_51.FnConditionalBasePassLeavesTreeIntact': WHATEVER THE INPUT: true; the input reads as it did. -/
def fnConditionalBasePassLeavesTreeIntactSpec : ChangeSpec := { name := "fnConditionalBasePassLeavesTreeIntact", fn := fun _ => fun
  | [d1, d2, d3, d4, d5, d6, d7] => { results := [.lit (.bool true)], args := [d1, d2, d3, d4, d5, d6, d7] }
  | _ => none }
def fnConditionalBasePassLeavesTreeIntactRow : OpenClaim := { program := "ytekiepkopcpdbaa", sum := "6f47be0a94e4901a0e14d6ae31847020c9d4342815b7eeab832d48a46b026aed", func := "github.com/google/go-jsonnet/n008_51.FnConditionalBasePassLeavesTreeIntact", spec := "fnConditionalBasePassLeavesTreeIntact", unfollowed := true, recurses := true, apart := false }
def FnConditionalBasePassLeavesTreeIntactSaid : Prop := fnConditionalBasePassLeavesTreeIntactRow.holds Try.pinned (OpenSpec.ofChange fnConditionalBasePassLeavesTreeIntactSpec)

/-- ITS FALSE NEIGHBOUR: 'it returns false'. Refute it at one input. -/
def fnConditionalBasePassLeavesTreeIntactWrong : ChangeSpec := { name := "fnConditionalBasePassLeavesTreeIntact", fn := fun _ => fun
  | [d1, d2, d3, d4, d5, d6, d7] => { results := [.lit (.bool false)], args := [d1, d2, d3, d4, d5, d6, d7] }
  | _ => none }
def FnConditionalBasePassLeavesTreeIntactWrongFalsely : Prop := fnConditionalBasePassLeavesTreeIntactRow.holds Try.pinned (OpenSpec.ofChange fnConditionalBasePassLeavesTreeIntactWrong)

/- THE SECOND FORM. 'bulk': how many values and letters a reading holds, each counted each time it is reached (what is shared counts as often as it is met; a slice's spare places count too). A statement '..UptoSaid' is the law's where the arguments, and the package variables that the reading takes, are together of bulk at most 1048576: NARROWER than '..Said'. Prove '..Said' where nothing that the law and all that it calls make is longer than what came in: it says more and counts as full. Else prove '..UptoSaid'. A law counts once. -/
mutual
def uptoBulk {H : Type} : DataW H → Nat
  | .lit (.string bytes) => bytes.length + 1
  | .lit _ => 1
  | .nil => 1
  | .ptr d => uptoBulk d + 1
  | .slice elems spare => uptoBulkAll elems + uptoBulkAll spare + 1
  | .agg parts => uptoBulkAll parts + 1
  | .iface _ d => uptoBulk d + 1
  | .map entries => uptoBulkEntries entries + 1
  | .held _ => 1
def uptoBulkAll {H : Type} : List (DataW H) → Nat
  | [] => 0
  | d :: r => uptoBulk d + uptoBulkAll r
def uptoBulkEntries {H : Type} : List (Lit × DataW H) → Nat
  | [] => 0
  | x :: r => uptoBulkEntry x + uptoBulkEntries r
def uptoBulkEntry {H : Type} : Lit × DataW H → Nat
  | (.string bytes, d) => bytes.length + uptoBulk d + 1
  | (_, d) => uptoBulk d + 1
 end
def uptoSmall : (H : Type) → List (DataW H) → Bool := fun _ ds => decide (uptoBulkAll ds ≤ 1048576)
def OpenSpec.upto (s : _root_.Go.ChangeSpec) : _root_.Go.OpenSpec := { _root_.Go.OpenSpec.ofChange s with cond := some uptoSmall }

/-- 'n008_51.FnAssertVisitsChildrenInSourceOrder', WHERE WHAT IT READS IS OF BULK AT MOST 1048576: true; the input reads as it did. -/
def fnAssertVisitsChildrenInSourceOrderUptoRow : OpenClaim := { program := "ytekiepkopcpdbaa", sum := "6f47be0a94e4901a0e14d6ae31847020c9d4342815b7eeab832d48a46b026aed", func := "github.com/google/go-jsonnet/n008_51.FnAssertVisitsChildrenInSourceOrder", spec := "fnAssertVisitsChildrenInSourceOrder", unfollowed := true, recurses := true, apart := false, narrowed := true }
def FnAssertVisitsChildrenInSourceOrderUptoSaid : Prop := fnAssertVisitsChildrenInSourceOrderUptoRow.holds Try.pinned (OpenSpec.upto fnAssertVisitsChildrenInSourceOrderSpec)

/-- 'n008_51.FnConditionalVisitsInSourceOrder', WHERE WHAT IT READS IS OF BULK AT MOST 1048576: true; the input reads as it did. -/
def fnConditionalVisitsInSourceOrderUptoRow : OpenClaim := { program := "ytekiepkopcpdbaa", sum := "6f47be0a94e4901a0e14d6ae31847020c9d4342815b7eeab832d48a46b026aed", func := "github.com/google/go-jsonnet/n008_51.FnConditionalVisitsInSourceOrder", spec := "fnConditionalVisitsInSourceOrder", unfollowed := true, recurses := true, apart := false, narrowed := true }
def FnConditionalVisitsInSourceOrderUptoSaid : Prop := fnConditionalVisitsInSourceOrderUptoRow.holds Try.pinned (OpenSpec.upto fnConditionalVisitsInSourceOrderSpec)

/-- 'n008_51.FnDollarBasePassLeavesNodeIntact', WHERE WHAT IT READS IS OF BULK AT MOST 1048576: true; the input reads as it did. -/
def fnDollarBasePassLeavesNodeIntactUptoRow : OpenClaim := { program := "ytekiepkopcpdbaa", sum := "6f47be0a94e4901a0e14d6ae31847020c9d4342815b7eeab832d48a46b026aed", func := "github.com/google/go-jsonnet/n008_51.FnDollarBasePassLeavesNodeIntact", spec := "fnDollarBasePassLeavesNodeIntact", unfollowed := true, recurses := true, apart := false, narrowed := true }
def FnDollarBasePassLeavesNodeIntactUptoSaid : Prop := fnDollarBasePassLeavesNodeIntactUptoRow.holds Try.pinned (OpenSpec.upto fnDollarBasePassLeavesNodeIntactSpec)

/-- 'n008_51.FnBinaryVisitsLeftOpRight', WHERE WHAT IT READS IS OF BULK AT MOST 1048576: true; the input reads as it did. -/
def fnBinaryVisitsLeftOpRightUptoRow : OpenClaim := { program := "ytekiepkopcpdbaa", sum := "6f47be0a94e4901a0e14d6ae31847020c9d4342815b7eeab832d48a46b026aed", func := "github.com/google/go-jsonnet/n008_51.FnBinaryVisitsLeftOpRight", spec := "fnBinaryVisitsLeftOpRight", unfollowed := true, recurses := true, apart := false, narrowed := true }
def FnBinaryVisitsLeftOpRightUptoSaid : Prop := fnBinaryVisitsLeftOpRightUptoRow.holds Try.pinned (OpenSpec.upto fnBinaryVisitsLeftOpRightSpec)

/-- 'n008_51.FnBinaryBasePassLeavesTreeIntact', WHERE WHAT IT READS IS OF BULK AT MOST 1048576: true; the input reads as it did. -/
def fnBinaryBasePassLeavesTreeIntactUptoRow : OpenClaim := { program := "ytekiepkopcpdbaa", sum := "6f47be0a94e4901a0e14d6ae31847020c9d4342815b7eeab832d48a46b026aed", func := "github.com/google/go-jsonnet/n008_51.FnBinaryBasePassLeavesTreeIntact", spec := "fnBinaryBasePassLeavesTreeIntact", unfollowed := true, recurses := true, apart := false, narrowed := true }
def FnBinaryBasePassLeavesTreeIntactUptoSaid : Prop := fnBinaryBasePassLeavesTreeIntactUptoRow.holds Try.pinned (OpenSpec.upto fnBinaryBasePassLeavesTreeIntactSpec)

/-- 'n008_51.FnAssertBasePassLeavesTreeIntact', WHERE WHAT IT READS IS OF BULK AT MOST 1048576: true; the input reads as it did. -/
def fnAssertBasePassLeavesTreeIntactUptoRow : OpenClaim := { program := "ytekiepkopcpdbaa", sum := "6f47be0a94e4901a0e14d6ae31847020c9d4342815b7eeab832d48a46b026aed", func := "github.com/google/go-jsonnet/n008_51.FnAssertBasePassLeavesTreeIntact", spec := "fnAssertBasePassLeavesTreeIntact", unfollowed := true, recurses := true, apart := false, narrowed := true }
def FnAssertBasePassLeavesTreeIntactUptoSaid : Prop := fnAssertBasePassLeavesTreeIntactUptoRow.holds Try.pinned (OpenSpec.upto fnAssertBasePassLeavesTreeIntactSpec)

/-- 'n008_51.FnConditionalBasePassLeavesTreeIntact', WHERE WHAT IT READS IS OF BULK AT MOST 1048576: true; the input reads as it did. -/
def fnConditionalBasePassLeavesTreeIntactUptoRow : OpenClaim := { program := "ytekiepkopcpdbaa", sum := "6f47be0a94e4901a0e14d6ae31847020c9d4342815b7eeab832d48a46b026aed", func := "github.com/google/go-jsonnet/n008_51.FnConditionalBasePassLeavesTreeIntact", spec := "fnConditionalBasePassLeavesTreeIntact", unfollowed := true, recurses := true, apart := false, narrowed := true }
def FnConditionalBasePassLeavesTreeIntactUptoSaid : Prop := fnConditionalBasePassLeavesTreeIntactUptoRow.holds Try.pinned (OpenSpec.upto fnConditionalBasePassLeavesTreeIntactSpec)

end Rows
end Go.Proofs.Ytekiepkopcpdbaa
