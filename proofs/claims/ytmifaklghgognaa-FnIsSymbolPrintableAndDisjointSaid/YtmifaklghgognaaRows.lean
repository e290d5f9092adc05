/-
  No cell of these rows narrows 'for every input' (looked for: loops, veiled, ifaces, maps, wideKeys, modest, calm, conditions, laid).
  DERIVED. THE GIVEN ROWS OF THIS SEAT. 12 by the template 'for every input the law returns true; each argument reads behind the call as it read before'; 0 by the template 'total and deterministic' (their statements: YtmifaklghgognaaTotals.lean).
  GIVEN WITH THE SEED: the statements are not yours to turn. If you find one false, say at which input.
  Laid BY PROGRAM, IN A SANDBOX (cutbox-rows.mjs): the forced cells as the released guide's own fill.sh prints them over the translation 8ecb30efcf22bd9c… (all of the seat's roots in one cut). By AI agents, Wed Nov 11 2026. No macro, syntax, notation, axiom, sorry.
-/
import Derived.Test.YtmifaklghgognaaChecked
import GoSem.Claim
import GoSem.ClaimJoined
import GoSem.ClaimMapViews
import Derived.JoinedTies
import Derived.KernelRfl
namespace Go.Proofs.Ytmifaklghgognaa
/- THE CELL 'sum', in the pinned program and in every row, IS THE sha256 OF THE DUMP (.gsa) THAT YtmifaklghgognaaProg.lean LOADS. Nothing in Lean hashes anything: it is a label: what it is worth is what the hold of that sum in a sandbox is worth. -/
noncomputable def Try.pinned : Pinned := { name := "ytmifaklghgognaa", sum := "8ecb30efcf22bd9ce9b37fa10f9bd667684e90b9e167959e38922a110e2cba9a", checked := Try.checked }
namespace Rows
def none {H : Type} : Left H := { results := [], args := [] }

/-- 'n008_139.FnIsLowerExactlyLatinSmalls': WHATEVER THE INPUT: true; the input reads as it did. -/
def fnIsLowerExactlyLatinSmallsSpec : ChangeSpec := { name := "fnIsLowerExactlyLatinSmalls", fn := fun _ => fun
  | [d] => { results := [.lit (.bool true)], args := [d] }
  | _ => none }
def fnIsLowerExactlyLatinSmallsRow : OpenClaim := { program := "ytmifaklghgognaa", sum := "8ecb30efcf22bd9ce9b37fa10f9bd667684e90b9e167959e38922a110e2cba9a", func := "github.com/google/go-jsonnet/n008_139.FnIsLowerExactlyLatinSmalls", spec := "fnIsLowerExactlyLatinSmalls", apart := false }
def FnIsLowerExactlyLatinSmallsSaid : Prop := fnIsLowerExactlyLatinSmallsRow.holds Try.pinned (OpenSpec.ofChange fnIsLowerExactlyLatinSmallsSpec)

/-- ITS FALSE NEIGHBOUR: 'it returns false'. Refute it at one input. -/
def fnIsLowerExactlyLatinSmallsWrong : ChangeSpec := { name := "fnIsLowerExactlyLatinSmalls", fn := fun _ => fun
  | [d] => { results := [.lit (.bool false)], args := [d] }
  | _ => none }
def FnIsLowerExactlyLatinSmallsWrongFalsely : Prop := fnIsLowerExactlyLatinSmallsRow.holds Try.pinned (OpenSpec.ofChange fnIsLowerExactlyLatinSmallsWrong)

/-- 'n008_139.FnIsUpperExactlyLatinCapitals': WHATEVER THE INPUT: true; the input reads as it did. -/
def fnIsUpperExactlyLatinCapitalsSpec : ChangeSpec := { name := "fnIsUpperExactlyLatinCapitals", fn := fun _ => fun
  | [d] => { results := [.lit (.bool true)], args := [d] }
  | _ => none }
def fnIsUpperExactlyLatinCapitalsRow : OpenClaim := { program := "ytmifaklghgognaa", sum := "8ecb30efcf22bd9ce9b37fa10f9bd667684e90b9e167959e38922a110e2cba9a", func := "github.com/google/go-jsonnet/n008_139.FnIsUpperExactlyLatinCapitals", spec := "fnIsUpperExactlyLatinCapitals", apart := false }
def FnIsUpperExactlyLatinCapitalsSaid : Prop := fnIsUpperExactlyLatinCapitalsRow.holds Try.pinned (OpenSpec.ofChange fnIsUpperExactlyLatinCapitalsSpec)

/-- ITS FALSE NEIGHBOUR: 'it returns false'. Refute it at one input. -/
def fnIsUpperExactlyLatinCapitalsWrong : ChangeSpec := { name := "fnIsUpperExactlyLatinCapitals", fn := fun _ => fun
  | [d] => { results := [.lit (.bool false)], args := [d] }
  | _ => none }
def FnIsUpperExactlyLatinCapitalsWrongFalsely : Prop := fnIsUpperExactlyLatinCapitalsRow.holds Try.pinned (OpenSpec.ofChange fnIsUpperExactlyLatinCapitalsWrong)

/-- 'n008_59.FnIsIdentifierAgreesWithValidIdentifierTail': WHATEVER THE INPUT: true; the input reads as it did. -/
def fnIsIdentifierAgreesWithValidIdentifierTailSpec : ChangeSpec := { name := "fnIsIdentifierAgreesWithValidIdentifierTail", fn := fun _ => fun
  | [d] => { results := [.lit (.bool true)], args := [d] }
  | _ => none }
def fnIsIdentifierAgreesWithValidIdentifierTailRow : OpenClaim := { program := "ytmifaklghgognaa", sum := "8ecb30efcf22bd9ce9b37fa10f9bd667684e90b9e167959e38922a110e2cba9a", func := "github.com/google/go-jsonnet/n008_59.FnIsIdentifierAgreesWithValidIdentifierTail", spec := "fnIsIdentifierAgreesWithValidIdentifierTail", apart := false }
def FnIsIdentifierAgreesWithValidIdentifierTailSaid : Prop := fnIsIdentifierAgreesWithValidIdentifierTailRow.holds Try.pinned (OpenSpec.ofChange fnIsIdentifierAgreesWithValidIdentifierTailSpec)

/-- ITS FALSE NEIGHBOUR: 'it returns false'. Refute it at one input. -/
def fnIsIdentifierAgreesWithValidIdentifierTailWrong : ChangeSpec := { name := "fnIsIdentifierAgreesWithValidIdentifierTail", fn := fun _ => fun
  | [d] => { results := [.lit (.bool false)], args := [d] }
  | _ => none }
def FnIsIdentifierAgreesWithValidIdentifierTailWrongFalsely : Prop := fnIsIdentifierAgreesWithValidIdentifierTailRow.holds Try.pinned (OpenSpec.ofChange fnIsIdentifierAgreesWithValidIdentifierTailWrong)

/-- 'n008_59.FnIsIdentifierFirstAgreesWithValidIdentifier': WHATEVER THE INPUT: true; the input reads as it did. -/
def fnIsIdentifierFirstAgreesWithValidIdentifierSpec : ChangeSpec := { name := "fnIsIdentifierFirstAgreesWithValidIdentifier", fn := fun _ => fun
  | [d] => { results := [.lit (.bool true)], args := [d] }
  | _ => none }
def fnIsIdentifierFirstAgreesWithValidIdentifierRow : OpenClaim := { program := "ytmifaklghgognaa", sum := "8ecb30efcf22bd9ce9b37fa10f9bd667684e90b9e167959e38922a110e2cba9a", func := "github.com/google/go-jsonnet/n008_59.FnIsIdentifierFirstAgreesWithValidIdentifier", spec := "fnIsIdentifierFirstAgreesWithValidIdentifier", apart := false }
def FnIsIdentifierFirstAgreesWithValidIdentifierSaid : Prop := fnIsIdentifierFirstAgreesWithValidIdentifierRow.holds Try.pinned (OpenSpec.ofChange fnIsIdentifierFirstAgreesWithValidIdentifierSpec)

/-- ITS FALSE NEIGHBOUR: 'it returns false'. Refute it at one input. -/
def fnIsIdentifierFirstAgreesWithValidIdentifierWrong : ChangeSpec := { name := "fnIsIdentifierFirstAgreesWithValidIdentifier", fn := fun _ => fun
  | [d] => { results := [.lit (.bool false)], args := [d] }
  | _ => none }
def FnIsIdentifierFirstAgreesWithValidIdentifierWrongFalsely : Prop := fnIsIdentifierFirstAgreesWithValidIdentifierRow.holds Try.pinned (OpenSpec.ofChange fnIsIdentifierFirstAgreesWithValidIdentifierWrong)

/-- 'n008_59.FnIsIdentifierTable': WHATEVER THE INPUT: true; the input reads as it did. -/
def fnIsIdentifierTableSpec : ChangeSpec := { name := "fnIsIdentifierTable", fn := fun _ => fun
  | [d] => { results := [.lit (.bool true)], args := [d] }
  | _ => none }
def fnIsIdentifierTableRow : OpenClaim := { program := "ytmifaklghgognaa", sum := "8ecb30efcf22bd9ce9b37fa10f9bd667684e90b9e167959e38922a110e2cba9a", func := "github.com/google/go-jsonnet/n008_59.FnIsIdentifierTable", spec := "fnIsIdentifierTable", apart := false }
def FnIsIdentifierTableSaid : Prop := fnIsIdentifierTableRow.holds Try.pinned (OpenSpec.ofChange fnIsIdentifierTableSpec)

/-- ITS FALSE NEIGHBOUR: 'it returns false'. Refute it at one input. -/
def fnIsIdentifierTableWrong : ChangeSpec := { name := "fnIsIdentifierTable", fn := fun _ => fun
  | [d] => { results := [.lit (.bool false)], args := [d] }
  | _ => none }
def FnIsIdentifierTableWrongFalsely : Prop := fnIsIdentifierTableRow.holds Try.pinned (OpenSpec.ofChange fnIsIdentifierTableWrong)

/-- 'n008_59.FnIsNumberDigitTable': WHATEVER THE INPUT: true; the input reads as it did. -/
def fnIsNumberDigitTableSpec : ChangeSpec := { name := "fnIsNumberDigitTable", fn := fun _ => fun
  | [d] => { results := [.lit (.bool true)], args := [d] }
  | _ => none }
def fnIsNumberDigitTableRow : OpenClaim := { program := "ytmifaklghgognaa", sum := "8ecb30efcf22bd9ce9b37fa10f9bd667684e90b9e167959e38922a110e2cba9a", func := "github.com/google/go-jsonnet/n008_59.FnIsNumberDigitTable", spec := "fnIsNumberDigitTable", apart := false }
def FnIsNumberDigitTableSaid : Prop := fnIsNumberDigitTableRow.holds Try.pinned (OpenSpec.ofChange fnIsNumberDigitTableSpec)

/-- ITS FALSE NEIGHBOUR: 'it returns false'. Refute it at one input. -/
def fnIsNumberDigitTableWrong : ChangeSpec := { name := "fnIsNumberDigitTable", fn := fun _ => fun
  | [d] => { results := [.lit (.bool false)], args := [d] }
  | _ => none }
def FnIsNumberDigitTableWrongFalsely : Prop := fnIsNumberDigitTableRow.holds Try.pinned (OpenSpec.ofChange fnIsNumberDigitTableWrong)

/-- 'n008_59.FnIsSymbolTable': WHATEVER THE INPUT: true; the input reads as it did. -/
def fnIsSymbolTableSpec : ChangeSpec := { name := "fnIsSymbolTable", fn := fun _ => fun
  | [d] => { results := [.lit (.bool true)], args := [d] }
  | _ => none }
def fnIsSymbolTableRow : OpenClaim := { program := "ytmifaklghgognaa", sum := "8ecb30efcf22bd9ce9b37fa10f9bd667684e90b9e167959e38922a110e2cba9a", func := "github.com/google/go-jsonnet/n008_59.FnIsSymbolTable", spec := "fnIsSymbolTable", apart := false }
def FnIsSymbolTableSaid : Prop := fnIsSymbolTableRow.holds Try.pinned (OpenSpec.ofChange fnIsSymbolTableSpec)

/-- ITS FALSE NEIGHBOUR: 'it returns false'. Refute it at one input. -/
def fnIsSymbolTableWrong : ChangeSpec := { name := "fnIsSymbolTable", fn := fun _ => fun
  | [d] => { results := [.lit (.bool false)], args := [d] }
  | _ => none }
def FnIsSymbolTableWrongFalsely : Prop := fnIsSymbolTableRow.holds Try.pinned (OpenSpec.ofChange fnIsSymbolTableWrong)

/-- 'n008_59.FnIsIdentifierFirstFoldModel': WHATEVER THE INPUT: true; the input reads as it did. -/
def fnIsIdentifierFirstFoldModelSpec : ChangeSpec := { name := "fnIsIdentifierFirstFoldModel", fn := fun _ => fun
  | [d] => { results := [.lit (.bool true)], args := [d] }
  | _ => none }
def fnIsIdentifierFirstFoldModelRow : OpenClaim := { program := "ytmifaklghgognaa", sum := "8ecb30efcf22bd9ce9b37fa10f9bd667684e90b9e167959e38922a110e2cba9a", func := "github.com/google/go-jsonnet/n008_59.FnIsIdentifierFirstFoldModel", spec := "fnIsIdentifierFirstFoldModel", apart := false }
def FnIsIdentifierFirstFoldModelSaid : Prop := fnIsIdentifierFirstFoldModelRow.holds Try.pinned (OpenSpec.ofChange fnIsIdentifierFirstFoldModelSpec)

/-- ITS FALSE NEIGHBOUR: 'it returns false'. Refute it at one input. -/
def fnIsIdentifierFirstFoldModelWrong : ChangeSpec := { name := "fnIsIdentifierFirstFoldModel", fn := fun _ => fun
  | [d] => { results := [.lit (.bool false)], args := [d] }
  | _ => none }
def FnIsIdentifierFirstFoldModelWrongFalsely : Prop := fnIsIdentifierFirstFoldModelRow.holds Try.pinned (OpenSpec.ofChange fnIsIdentifierFirstFoldModelWrong)

/-- 'n008_59.FnIsNumberAgreesWithIdentifierTail': WHATEVER THE INPUT: true; the input reads as it did. -/
def fnIsNumberAgreesWithIdentifierTailSpec : ChangeSpec := { name := "fnIsNumberAgreesWithIdentifierTail", fn := fun _ => fun
  | [d] => { results := [.lit (.bool true)], args := [d] }
  | _ => none }
def fnIsNumberAgreesWithIdentifierTailRow : OpenClaim := { program := "ytmifaklghgognaa", sum := "8ecb30efcf22bd9ce9b37fa10f9bd667684e90b9e167959e38922a110e2cba9a", func := "github.com/google/go-jsonnet/n008_59.FnIsNumberAgreesWithIdentifierTail", spec := "fnIsNumberAgreesWithIdentifierTail", apart := false }
def FnIsNumberAgreesWithIdentifierTailSaid : Prop := fnIsNumberAgreesWithIdentifierTailRow.holds Try.pinned (OpenSpec.ofChange fnIsNumberAgreesWithIdentifierTailSpec)

/-- ITS FALSE NEIGHBOUR: 'it returns false'. Refute it at one input. -/
def fnIsNumberAgreesWithIdentifierTailWrong : ChangeSpec := { name := "fnIsNumberAgreesWithIdentifierTail", fn := fun _ => fun
  | [d] => { results := [.lit (.bool false)], args := [d] }
  | _ => none }
def FnIsNumberAgreesWithIdentifierTailWrongFalsely : Prop := fnIsNumberAgreesWithIdentifierTailRow.holds Try.pinned (OpenSpec.ofChange fnIsNumberAgreesWithIdentifierTailWrong)

/-- 'n008_139.FnOneRuneIdentifierIsLetter': WHATEVER THE INPUT: true; the input reads as it did. -/
def fnOneRuneIdentifierIsLetterSpec : ChangeSpec := { name := "fnOneRuneIdentifierIsLetter", fn := fun _ => fun
  | [d] => { results := [.lit (.bool true)], args := [d] }
  | _ => none }
def fnOneRuneIdentifierIsLetterRow : OpenClaim := { program := "ytmifaklghgognaa", sum := "8ecb30efcf22bd9ce9b37fa10f9bd667684e90b9e167959e38922a110e2cba9a", func := "github.com/google/go-jsonnet/n008_139.FnOneRuneIdentifierIsLetter", spec := "fnOneRuneIdentifierIsLetter", apart := false }
def FnOneRuneIdentifierIsLetterSaid : Prop := fnOneRuneIdentifierIsLetterRow.holds Try.pinned (OpenSpec.ofChange fnOneRuneIdentifierIsLetterSpec)

/-- ITS FALSE NEIGHBOUR: 'it returns false'. Refute it at one input. -/
def fnOneRuneIdentifierIsLetterWrong : ChangeSpec := { name := "fnOneRuneIdentifierIsLetter", fn := fun _ => fun
  | [d] => { results := [.lit (.bool false)], args := [d] }
  | _ => none }
def FnOneRuneIdentifierIsLetterWrongFalsely : Prop := fnOneRuneIdentifierIsLetterRow.holds Try.pinned (OpenSpec.ofChange fnOneRuneIdentifierIsLetterWrong)

/-- 'n008_139.FnLowerIsUpperShiftedByCase': WHATEVER THE INPUT: true; the input reads as it did. -/
def fnLowerIsUpperShiftedByCaseSpec : ChangeSpec := { name := "fnLowerIsUpperShiftedByCase", fn := fun _ => fun
  | [d] => { results := [.lit (.bool true)], args := [d] }
  | _ => none }
def fnLowerIsUpperShiftedByCaseRow : OpenClaim := { program := "ytmifaklghgognaa", sum := "8ecb30efcf22bd9ce9b37fa10f9bd667684e90b9e167959e38922a110e2cba9a", func := "github.com/google/go-jsonnet/n008_139.FnLowerIsUpperShiftedByCase", spec := "fnLowerIsUpperShiftedByCase", apart := false }
def FnLowerIsUpperShiftedByCaseSaid : Prop := fnLowerIsUpperShiftedByCaseRow.holds Try.pinned (OpenSpec.ofChange fnLowerIsUpperShiftedByCaseSpec)

/-- ITS FALSE NEIGHBOUR: 'it returns false'. Refute it at one input. -/
def fnLowerIsUpperShiftedByCaseWrong : ChangeSpec := { name := "fnLowerIsUpperShiftedByCase", fn := fun _ => fun
  | [d] => { results := [.lit (.bool false)], args := [d] }
  | _ => none }
def FnLowerIsUpperShiftedByCaseWrongFalsely : Prop := fnLowerIsUpperShiftedByCaseRow.holds Try.pinned (OpenSpec.ofChange fnLowerIsUpperShiftedByCaseWrong)

/-- 'n008_59.FnIsSymbolPrintableAndDisjoint': WHATEVER THE INPUT: true; the input reads as it did. -/
def fnIsSymbolPrintableAndDisjointSpec : ChangeSpec := { name := "fnIsSymbolPrintableAndDisjoint", fn := fun _ => fun
  | [d] => { results := [.lit (.bool true)], args := [d] }
  | _ => none }
def fnIsSymbolPrintableAndDisjointRow : OpenClaim := { program := "ytmifaklghgognaa", sum := "8ecb30efcf22bd9ce9b37fa10f9bd667684e90b9e167959e38922a110e2cba9a", func := "github.com/google/go-jsonnet/n008_59.FnIsSymbolPrintableAndDisjoint", spec := "fnIsSymbolPrintableAndDisjoint", apart := false }
def FnIsSymbolPrintableAndDisjointSaid : Prop := fnIsSymbolPrintableAndDisjointRow.holds Try.pinned (OpenSpec.ofChange fnIsSymbolPrintableAndDisjointSpec)

/-- ITS FALSE NEIGHBOUR: 'it returns false'. Refute it at one input. -/
def fnIsSymbolPrintableAndDisjointWrong : ChangeSpec := { name := "fnIsSymbolPrintableAndDisjoint", fn := fun _ => fun
  | [d] => { results := [.lit (.bool false)], args := [d] }
  | _ => none }
def FnIsSymbolPrintableAndDisjointWrongFalsely : Prop := fnIsSymbolPrintableAndDisjointRow.holds Try.pinned (OpenSpec.ofChange fnIsSymbolPrintableAndDisjointWrong)

/- THE SECOND FORM. 'bulk': how many values and letters a reading holds, each counted each time it is reached (what is shared counts as often as it is met; a slice's spare places count too). A statement '..UptoSaid' is the law's where the arguments, and the package variables that the reading takes, are together of bulk at most 1048576: NARROWER than '..Said'. Prove '..Said' where nothing that the law and all that it calls make is longer than what came in: it says more and counts as full. Else prove '..UptoSaid'. A law counts once. -/
mutual
def uptoBulk {H : Type} : DataW H → Nat
  | .lit (.string bytes) => bytes.length + 1
  | .lit _ => 1
  | .nil => 1
  | .ptr d => uptoBulk d + 1
  | .slice elems spare => uptoBulkAll elems + uptoBulkAll spare + 1
  | .agg parts => uptoBulkAll parts + 1
  | .iface _ d => uptoBulk d + 1
  | .map entries => uptoBulkEntries entries + 1
  | .held _ => 1
def uptoBulkAll {H : Type} : List (DataW H) → Nat
  | [] => 0
  | d :: r => uptoBulk d + uptoBulkAll r
def uptoBulkEntries {H : Type} : List (Lit × DataW H) → Nat
  | [] => 0
  | x :: r => uptoBulkEntry x + uptoBulkEntries r
def uptoBulkEntry {H : Type} : Lit × DataW H → Nat
  | (.string bytes, d) => bytes.length + uptoBulk d + 1
  | (_, d) => uptoBulk d + 1
 end
def uptoSmall : (H : Type) → List (DataW H) → Bool := fun _ ds => decide (uptoBulkAll ds ≤ 1048576)
def OpenSpec.upto (s : _root_.Go.ChangeSpec) : _root_.Go.OpenSpec := { _root_.Go.OpenSpec.ofChange s with cond := some uptoSmall }

/-- 'n008_139.FnIsLowerExactlyLatinSmalls', WHERE WHAT IT READS IS OF BULK AT MOST 1048576: true; the input reads as it did. -/
def fnIsLowerExactlyLatinSmallsUptoRow : OpenClaim := { program := "ytmifaklghgognaa", sum := "8ecb30efcf22bd9ce9b37fa10f9bd667684e90b9e167959e38922a110e2cba9a", func := "github.com/google/go-jsonnet/n008_139.FnIsLowerExactlyLatinSmalls", spec := "fnIsLowerExactlyLatinSmalls", apart := false, narrowed := true }
def FnIsLowerExactlyLatinSmallsUptoSaid : Prop := fnIsLowerExactlyLatinSmallsUptoRow.holds Try.pinned (OpenSpec.upto fnIsLowerExactlyLatinSmallsSpec)

/-- 'n008_139.FnIsUpperExactlyLatinCapitals', WHERE WHAT IT READS IS OF BULK AT MOST 1048576: true; the input reads as it did. -/
def fnIsUpperExactlyLatinCapitalsUptoRow : OpenClaim := { program := "ytmifaklghgognaa", sum := "8ecb30efcf22bd9ce9b37fa10f9bd667684e90b9e167959e38922a110e2cba9a", func := "github.com/google/go-jsonnet/n008_139.FnIsUpperExactlyLatinCapitals", spec := "fnIsUpperExactlyLatinCapitals", apart := false, narrowed := true }
def FnIsUpperExactlyLatinCapitalsUptoSaid : Prop := fnIsUpperExactlyLatinCapitalsUptoRow.holds Try.pinned (OpenSpec.upto fnIsUpperExactlyLatinCapitalsSpec)

/-- 'n008_59.FnIsIdentifierAgreesWithValidIdentifierTail', WHERE WHAT IT READS IS OF BULK AT MOST 1048576: true; the input reads as it did. -/
def fnIsIdentifierAgreesWithValidIdentifierTailUptoRow : OpenClaim := { program := "ytmifaklghgognaa", sum := "8ecb30efcf22bd9ce9b37fa10f9bd667684e90b9e167959e38922a110e2cba9a", func := "github.com/google/go-jsonnet/n008_59.FnIsIdentifierAgreesWithValidIdentifierTail", spec := "fnIsIdentifierAgreesWithValidIdentifierTail", apart := false, narrowed := true }
def FnIsIdentifierAgreesWithValidIdentifierTailUptoSaid : Prop := fnIsIdentifierAgreesWithValidIdentifierTailUptoRow.holds Try.pinned (OpenSpec.upto fnIsIdentifierAgreesWithValidIdentifierTailSpec)

/-- 'n008_59.FnIsIdentifierFirstAgreesWithValidIdentifier', WHERE WHAT IT READS IS OF BULK AT MOST 1048576: true; the input reads as it did. -/
def fnIsIdentifierFirstAgreesWithValidIdentifierUptoRow : OpenClaim := { program := "ytmifaklghgognaa", sum := "8ecb30efcf22bd9ce9b37fa10f9bd667684e90b9e167959e38922a110e2cba9a", func := "github.com/google/go-jsonnet/n008_59.FnIsIdentifierFirstAgreesWithValidIdentifier", spec := "fnIsIdentifierFirstAgreesWithValidIdentifier", apart := false, narrowed := true }
def FnIsIdentifierFirstAgreesWithValidIdentifierUptoSaid : Prop := fnIsIdentifierFirstAgreesWithValidIdentifierUptoRow.holds Try.pinned (OpenSpec.upto fnIsIdentifierFirstAgreesWithValidIdentifierSpec)

/-- 'n008_59.FnIsIdentifierTable', WHERE WHAT IT READS IS OF BULK AT MOST 1048576: true; the input reads as it did. -/
def fnIsIdentifierTableUptoRow : OpenClaim := { program := "ytmifaklghgognaa", sum := "8ecb30efcf22bd9ce9b37fa10f9bd667684e90b9e167959e38922a110e2cba9a", func := "github.com/google/go-jsonnet/n008_59.FnIsIdentifierTable", spec := "fnIsIdentifierTable", apart := false, narrowed := true }
def FnIsIdentifierTableUptoSaid : Prop := fnIsIdentifierTableUptoRow.holds Try.pinned (OpenSpec.upto fnIsIdentifierTableSpec)

/-- 'n008_59.FnIsNumberDigitTable', WHERE WHAT IT READS IS OF BULK AT MOST 1048576: true; the input reads as it did. -/
def fnIsNumberDigitTableUptoRow : OpenClaim := { program := "ytmifaklghgognaa", sum := "8ecb30efcf22bd9ce9b37fa10f9bd667684e90b9e167959e38922a110e2cba9a", func := "github.com/google/go-jsonnet/n008_59.FnIsNumberDigitTable", spec := "fnIsNumberDigitTable", apart := false, narrowed := true }
def FnIsNumberDigitTableUptoSaid : Prop := fnIsNumberDigitTableUptoRow.holds Try.pinned (OpenSpec.upto fnIsNumberDigitTableSpec)

/-- 'n008_59.FnIsSymbolTable', WHERE WHAT IT READS IS OF BULK AT MOST 1048576: true; the input reads as it did. -/
def fnIsSymbolTableUptoRow : OpenClaim := { program := "ytmifaklghgognaa", sum := "8ecb30efcf22bd9ce9b37fa10f9bd667684e90b9e167959e38922a110e2cba9a", func := "github.com/google/go-jsonnet/n008_59.FnIsSymbolTable", spec := "fnIsSymbolTable", apart := false, narrowed := true }
def FnIsSymbolTableUptoSaid : Prop := fnIsSymbolTableUptoRow.holds Try.pinned (OpenSpec.upto fnIsSymbolTableSpec)

/-- 'n008_59.FnIsIdentifierFirstFoldModel', WHERE WHAT IT READS IS OF BULK AT MOST 1048576: true; the input reads as it did. -/
def fnIsIdentifierFirstFoldModelUptoRow : OpenClaim := { program := "ytmifaklghgognaa", sum := "8ecb30efcf22bd9ce9b37fa10f9bd667684e90b9e167959e38922a110e2cba9a", func := "github.com/google/go-jsonnet/n008_59.FnIsIdentifierFirstFoldModel", spec := "fnIsIdentifierFirstFoldModel", apart := false, narrowed := true }
def FnIsIdentifierFirstFoldModelUptoSaid : Prop := fnIsIdentifierFirstFoldModelUptoRow.holds Try.pinned (OpenSpec.upto fnIsIdentifierFirstFoldModelSpec)

/-- 'n008_59.FnIsNumberAgreesWithIdentifierTail', WHERE WHAT IT READS IS OF BULK AT MOST 1048576: true; the input reads as it did. -/
def fnIsNumberAgreesWithIdentifierTailUptoRow : OpenClaim := { program := "ytmifaklghgognaa", sum := "8ecb30efcf22bd9ce9b37fa10f9bd667684e90b9e167959e38922a110e2cba9a", func := "github.com/google/go-jsonnet/n008_59.FnIsNumberAgreesWithIdentifierTail", spec := "fnIsNumberAgreesWithIdentifierTail", apart := false, narrowed := true }
def FnIsNumberAgreesWithIdentifierTailUptoSaid : Prop := fnIsNumberAgreesWithIdentifierTailUptoRow.holds Try.pinned (OpenSpec.upto fnIsNumberAgreesWithIdentifierTailSpec)

/-- 'n008_139.FnOneRuneIdentifierIsLetter', WHERE WHAT IT READS IS OF BULK AT MOST 1048576: true; the input reads as it did. -/
def fnOneRuneIdentifierIsLetterUptoRow : OpenClaim := { program := "ytmifaklghgognaa", sum := "8ecb30efcf22bd9ce9b37fa10f9bd667684e90b9e167959e38922a110e2cba9a", func := "github.com/google/go-jsonnet/n008_139.FnOneRuneIdentifierIsLetter", spec := "fnOneRuneIdentifierIsLetter", apart := false, narrowed := true }
def FnOneRuneIdentifierIsLetterUptoSaid : Prop := fnOneRuneIdentifierIsLetterUptoRow.holds Try.pinned (OpenSpec.upto fnOneRuneIdentifierIsLetterSpec)

/-- 'n008_139.FnLowerIsUpperShiftedByCase', WHERE WHAT IT READS IS OF BULK AT MOST 1048576: true; the input reads as it did. -/
def fnLowerIsUpperShiftedByCaseUptoRow : OpenClaim := { program := "ytmifaklghgognaa", sum := "8ecb30efcf22bd9ce9b37fa10f9bd667684e90b9e167959e38922a110e2cba9a", func := "github.com/google/go-jsonnet/n008_139.FnLowerIsUpperShiftedByCase", spec := "fnLowerIsUpperShiftedByCase", apart := false, narrowed := true }
def FnLowerIsUpperShiftedByCaseUptoSaid : Prop := fnLowerIsUpperShiftedByCaseUptoRow.holds Try.pinned (OpenSpec.upto fnLowerIsUpperShiftedByCaseSpec)

/-- 'n008_59.FnIsSymbolPrintableAndDisjoint', WHERE WHAT IT READS IS OF BULK AT MOST 1048576: true; the input reads as it did. -/
def fnIsSymbolPrintableAndDisjointUptoRow : OpenClaim := { program := "ytmifaklghgognaa", sum := "8ecb30efcf22bd9ce9b37fa10f9bd667684e90b9e167959e38922a110e2cba9a", func := "github.com/google/go-jsonnet/n008_59.FnIsSymbolPrintableAndDisjoint", spec := "fnIsSymbolPrintableAndDisjoint", apart := false, narrowed := true }
def FnIsSymbolPrintableAndDisjointUptoSaid : Prop := fnIsSymbolPrintableAndDisjointUptoRow.holds Try.pinned (OpenSpec.upto fnIsSymbolPrintableAndDisjointSpec)

end Rows
end Go.Proofs.Ytmifaklghgognaa
