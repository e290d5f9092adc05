/-
  No cell of these rows narrows 'for every input' (looked for: loops, veiled, ifaces, maps, wideKeys, modest, calm, conditions, laid).
  DERIVED. THE GIVEN ROWS OF THIS SEAT. 5 by the template 'for every input the law returns true; each argument reads behind the call as it read before'; 0 by the template 'total and deterministic' (their statements: YtlebpbohddineaaTotals.lean).
  GIVEN WITH THE SEED: the statements are not yours to turn. If you find one false, say at which input.
  Laid BY PROGRAM, IN A SANDBOX (cutbox-rows.mjs): the forced cells as the released guide's own fill.sh prints them over the translation 149a100a7a59d058… (all of the seat's roots in one cut). By AI agents, Wed Nov 11 2026. No macro, syntax, notation, axiom, sorry.
-/
import Derived.Test.YtlebpbohddineaaChecked
import GoSem.Claim
import GoSem.ClaimJoined
import GoSem.ClaimMapViews
import Derived.JoinedTies
import Derived.KernelRfl
namespace Go.Proofs.Ytlebpbohddineaa
/- THE CELL 'sum', in the pinned program and in every row, IS THE sha256 OF THE DUMP (.gsa) THAT YtlebpbohddineaaProg.lean LOADS. Nothing in Lean hashes anything: it is a label: what it is worth is what the hold of that sum in a sandbox is worth. -/
noncomputable def Try.pinned : Pinned := { name := "ytlebpbohddineaa", sum := "149a100a7a59d0584083e8d90ed2bdc0db5a119bc1c5e0fd0a399ee9ca6326e7", checked := Try.checked }
namespace Rows
def none {H : Type} : Left H := { results := [], args := [] }

/-- 'n008_68.FnIsHorizontalWhitespaceExactSet': WHATEVER THE INPUT: true; the input reads as it did. -/
def fnIsHorizontalWhitespaceExactSetSpec : ChangeSpec := { name := "fnIsHorizontalWhitespaceExactSet", fn := fun _ => fun
  | [d] => { results := [.lit (.bool true)], args := [d] }
  | _ => none }
def fnIsHorizontalWhitespaceExactSetRow : OpenClaim := { program := "ytlebpbohddineaa", sum := "149a100a7a59d0584083e8d90ed2bdc0db5a119bc1c5e0fd0a399ee9ca6326e7", func := "github.com/google/go-jsonnet/n008_68.FnIsHorizontalWhitespaceExactSet", spec := "fnIsHorizontalWhitespaceExactSet", apart := false }
def FnIsHorizontalWhitespaceExactSetSaid : Prop := fnIsHorizontalWhitespaceExactSetRow.holds Try.pinned (OpenSpec.ofChange fnIsHorizontalWhitespaceExactSetSpec)

/-- ITS FALSE NEIGHBOUR: 'it returns false'. Refute it at one input. -/
def fnIsHorizontalWhitespaceExactSetWrong : ChangeSpec := { name := "fnIsHorizontalWhitespaceExactSet", fn := fun _ => fun
  | [d] => { results := [.lit (.bool false)], args := [d] }
  | _ => none }
def FnIsHorizontalWhitespaceExactSetWrongFalsely : Prop := fnIsHorizontalWhitespaceExactSetRow.holds Try.pinned (OpenSpec.ofChange fnIsHorizontalWhitespaceExactSetWrong)

/-- 'n008_68.FnIsWhitespaceExactSet': WHATEVER THE INPUT: true; the input reads as it did. -/
def fnIsWhitespaceExactSetSpec : ChangeSpec := { name := "fnIsWhitespaceExactSet", fn := fun _ => fun
  | [d] => { results := [.lit (.bool true)], args := [d] }
  | _ => none }
def fnIsWhitespaceExactSetRow : OpenClaim := { program := "ytlebpbohddineaa", sum := "149a100a7a59d0584083e8d90ed2bdc0db5a119bc1c5e0fd0a399ee9ca6326e7", func := "github.com/google/go-jsonnet/n008_68.FnIsWhitespaceExactSet", spec := "fnIsWhitespaceExactSet", apart := false }
def FnIsWhitespaceExactSetSaid : Prop := fnIsWhitespaceExactSetRow.holds Try.pinned (OpenSpec.ofChange fnIsWhitespaceExactSetSpec)

/-- ITS FALSE NEIGHBOUR: 'it returns false'. Refute it at one input. -/
def fnIsWhitespaceExactSetWrong : ChangeSpec := { name := "fnIsWhitespaceExactSet", fn := fun _ => fun
  | [d] => { results := [.lit (.bool false)], args := [d] }
  | _ => none }
def FnIsWhitespaceExactSetWrongFalsely : Prop := fnIsWhitespaceExactSetRow.holds Try.pinned (OpenSpec.ofChange fnIsWhitespaceExactSetWrong)

/-- 'n008_68.FnIsHorizontalWhitespaceIsWhatStripCutsAtEnd': WHATEVER THE INPUT: true; the input reads as it did. -/
def fnIsHorizontalWhitespaceIsWhatStripCutsAtEndSpec : ChangeSpec := { name := "fnIsHorizontalWhitespaceIsWhatStripCutsAtEnd", fn := fun _ => fun
  | [d] => { results := [.lit (.bool true)], args := [d] }
  | _ => none }
def fnIsHorizontalWhitespaceIsWhatStripCutsAtEndRow : OpenClaim := { program := "ytlebpbohddineaa", sum := "149a100a7a59d0584083e8d90ed2bdc0db5a119bc1c5e0fd0a399ee9ca6326e7", func := "github.com/google/go-jsonnet/n008_68.FnIsHorizontalWhitespaceIsWhatStripCutsAtEnd", spec := "fnIsHorizontalWhitespaceIsWhatStripCutsAtEnd", apart := false }
def FnIsHorizontalWhitespaceIsWhatStripCutsAtEndSaid : Prop := fnIsHorizontalWhitespaceIsWhatStripCutsAtEndRow.holds Try.pinned (OpenSpec.ofChange fnIsHorizontalWhitespaceIsWhatStripCutsAtEndSpec)

/-- ITS FALSE NEIGHBOUR: 'it returns false'. Refute it at one input. -/
def fnIsHorizontalWhitespaceIsWhatStripCutsAtEndWrong : ChangeSpec := { name := "fnIsHorizontalWhitespaceIsWhatStripCutsAtEnd", fn := fun _ => fun
  | [d] => { results := [.lit (.bool false)], args := [d] }
  | _ => none }
def FnIsHorizontalWhitespaceIsWhatStripCutsAtEndWrongFalsely : Prop := fnIsHorizontalWhitespaceIsWhatStripCutsAtEndRow.holds Try.pinned (OpenSpec.ofChange fnIsHorizontalWhitespaceIsWhatStripCutsAtEndWrong)

/-- 'n008_68.FnStripWhitespaceClosedForm': WHATEVER THE INPUT: true; the input reads as it did. -/
def fnStripWhitespaceClosedFormSpec : ChangeSpec := { name := "fnStripWhitespaceClosedForm", fn := fun _ => fun
  | [d1, d2] => { results := [.lit (.bool true)], args := [d1, d2] }
  | _ => none }
def fnStripWhitespaceClosedFormRow : OpenClaim := { program := "ytlebpbohddineaa", sum := "149a100a7a59d0584083e8d90ed2bdc0db5a119bc1c5e0fd0a399ee9ca6326e7", func := "github.com/google/go-jsonnet/n008_68.FnStripWhitespaceClosedForm", spec := "fnStripWhitespaceClosedForm", apart := false }
def FnStripWhitespaceClosedFormSaid : Prop := fnStripWhitespaceClosedFormRow.holds Try.pinned (OpenSpec.ofChange fnStripWhitespaceClosedFormSpec)

/-- ITS FALSE NEIGHBOUR: 'it returns false'. Refute it at one input. -/
def fnStripWhitespaceClosedFormWrong : ChangeSpec := { name := "fnStripWhitespaceClosedForm", fn := fun _ => fun
  | [d1, d2] => { results := [.lit (.bool false)], args := [d1, d2] }
  | _ => none }
def FnStripWhitespaceClosedFormWrongFalsely : Prop := fnStripWhitespaceClosedFormRow.holds Try.pinned (OpenSpec.ofChange fnStripWhitespaceClosedFormWrong)

/-- 'n008_68.FnStripWhitespaceMarginsAdd': WHATEVER THE INPUT: true; the input reads as it did. -/
def fnStripWhitespaceMarginsAddSpec : ChangeSpec := { name := "fnStripWhitespaceMarginsAdd", fn := fun _ => fun
  | [d1, d2, d3] => { results := [.lit (.bool true)], args := [d1, d2, d3] }
  | _ => none }
def fnStripWhitespaceMarginsAddRow : OpenClaim := { program := "ytlebpbohddineaa", sum := "149a100a7a59d0584083e8d90ed2bdc0db5a119bc1c5e0fd0a399ee9ca6326e7", func := "github.com/google/go-jsonnet/n008_68.FnStripWhitespaceMarginsAdd", spec := "fnStripWhitespaceMarginsAdd", apart := false }
def FnStripWhitespaceMarginsAddSaid : Prop := fnStripWhitespaceMarginsAddRow.holds Try.pinned (OpenSpec.ofChange fnStripWhitespaceMarginsAddSpec)

/-- ITS FALSE NEIGHBOUR: 'it returns false'. Refute it at one input. -/
def fnStripWhitespaceMarginsAddWrong : ChangeSpec := { name := "fnStripWhitespaceMarginsAdd", fn := fun _ => fun
  | [d1, d2, d3] => { results := [.lit (.bool false)], args := [d1, d2, d3] }
  | _ => none }
def FnStripWhitespaceMarginsAddWrongFalsely : Prop := fnStripWhitespaceMarginsAddRow.holds Try.pinned (OpenSpec.ofChange fnStripWhitespaceMarginsAddWrong)

/- THE SECOND FORM. 'bulk': how many values and letters a reading holds, each counted each time it is reached (what is shared counts as often as it is met; a slice's spare places count too). A statement '..UptoSaid' is the law's where the arguments, and the package variables that the reading takes, are together of bulk at most 1048576: NARROWER than '..Said'. Prove '..Said' where nothing that the law and all that it calls make is longer than what came in: it says more and counts as full. Else prove '..UptoSaid'. A law counts once. -/
mutual
def uptoBulk {H : Type} : DataW H → Nat
  | .lit (.string bytes) => bytes.length + 1
  | .lit _ => 1
  | .nil => 1
  | .ptr d => uptoBulk d + 1
  | .slice elems spare => uptoBulkAll elems + uptoBulkAll spare + 1
  | .agg parts => uptoBulkAll parts + 1
  | .iface _ d => uptoBulk d + 1
  | .map entries => uptoBulkEntries entries + 1
  | .held _ => 1
def uptoBulkAll {H : Type} : List (DataW H) → Nat
  | [] => 0
  | d :: r => uptoBulk d + uptoBulkAll r
def uptoBulkEntries {H : Type} : List (Lit × DataW H) → Nat
  | [] => 0
  | x :: r => uptoBulkEntry x + uptoBulkEntries r
def uptoBulkEntry {H : Type} : Lit × DataW H → Nat
  | (.string bytes, d) => bytes.length + uptoBulk d + 1
  | (_, d) => uptoBulk d + 1
 end
def uptoSmall : (H : Type) → List (DataW H) → Bool := fun _ ds => decide (uptoBulkAll ds ≤ 1048576)
def OpenSpec.upto (s : _root_.Go.ChangeSpec) : _root_.Go.OpenSpec := { _root_.Go.OpenSpec.ofChange s with cond := some uptoSmall }

/-- 'n008_68.FnIsHorizontalWhitespaceExactSet', WHERE WHAT IT READS IS OF BULK AT MOST 1048576: true; the input reads as it did. -/
def fnIsHorizontalWhitespaceExactSetUptoRow : OpenClaim := { program := "ytlebpbohddineaa", sum := "149a100a7a59d0584083e8d90ed2bdc0db5a119bc1c5e0fd0a399ee9ca6326e7", func := "github.com/google/go-jsonnet/n008_68.FnIsHorizontalWhitespaceExactSet", spec := "fnIsHorizontalWhitespaceExactSet", apart := false, narrowed := true }
def FnIsHorizontalWhitespaceExactSetUptoSaid : Prop := fnIsHorizontalWhitespaceExactSetUptoRow.holds Try.pinned (OpenSpec.upto fnIsHorizontalWhitespaceExactSetSpec)

/-- 'n008_68.FnIsWhitespaceExactSet', WHERE WHAT IT READS IS OF BULK AT MOST 1048576: true; the input reads as it did. -/
def fnIsWhitespaceExactSetUptoRow : OpenClaim := { program := "ytlebpbohddineaa", sum := "149a100a7a59d0584083e8d90ed2bdc0db5a119bc1c5e0fd0a399ee9ca6326e7", func := "github.com/google/go-jsonnet/n008_68.FnIsWhitespaceExactSet", spec := "fnIsWhitespaceExactSet", apart := false, narrowed := true }
def FnIsWhitespaceExactSetUptoSaid : Prop := fnIsWhitespaceExactSetUptoRow.holds Try.pinned (OpenSpec.upto fnIsWhitespaceExactSetSpec)

/-- 'n008_68.FnIsHorizontalWhitespaceIsWhatStripCutsAtEnd', WHERE WHAT IT READS IS OF BULK AT MOST 1048576: true; the input reads as it did. -/
def fnIsHorizontalWhitespaceIsWhatStripCutsAtEndUptoRow : OpenClaim := { program := "ytlebpbohddineaa", sum := "149a100a7a59d0584083e8d90ed2bdc0db5a119bc1c5e0fd0a399ee9ca6326e7", func := "github.com/google/go-jsonnet/n008_68.FnIsHorizontalWhitespaceIsWhatStripCutsAtEnd", spec := "fnIsHorizontalWhitespaceIsWhatStripCutsAtEnd", apart := false, narrowed := true }
def FnIsHorizontalWhitespaceIsWhatStripCutsAtEndUptoSaid : Prop := fnIsHorizontalWhitespaceIsWhatStripCutsAtEndUptoRow.holds Try.pinned (OpenSpec.upto fnIsHorizontalWhitespaceIsWhatStripCutsAtEndSpec)

/-- 'n008_68.FnStripWhitespaceClosedForm', WHERE WHAT IT READS IS OF BULK AT MOST 1048576: true; the input reads as it did. -/
def fnStripWhitespaceClosedFormUptoRow : OpenClaim := { program := "ytlebpbohddineaa", sum := "149a100a7a59d0584083e8d90ed2bdc0db5a119bc1c5e0fd0a399ee9ca6326e7", func := "github.com/google/go-jsonnet/n008_68.FnStripWhitespaceClosedForm", spec := "fnStripWhitespaceClosedForm", apart := false, narrowed := true }
def FnStripWhitespaceClosedFormUptoSaid : Prop := fnStripWhitespaceClosedFormUptoRow.holds Try.pinned (OpenSpec.upto fnStripWhitespaceClosedFormSpec)

/-- 'n008_68.FnStripWhitespaceMarginsAdd', WHERE WHAT IT READS IS OF BULK AT MOST 1048576: true; the input reads as it did. -/
def fnStripWhitespaceMarginsAddUptoRow : OpenClaim := { program := "ytlebpbohddineaa", sum := "149a100a7a59d0584083e8d90ed2bdc0db5a119bc1c5e0fd0a399ee9ca6326e7", func := "github.com/google/go-jsonnet/n008_68.FnStripWhitespaceMarginsAdd", spec := "fnStripWhitespaceMarginsAdd", apart := false, narrowed := true }
def FnStripWhitespaceMarginsAddUptoSaid : Prop := fnStripWhitespaceMarginsAddUptoRow.holds Try.pinned (OpenSpec.upto fnStripWhitespaceMarginsAddSpec)

end Rows
end Go.Proofs.Ytlebpbohddineaa
