/-
  No cell of these rows narrows 'for every input' (looked for: loops, veiled, ifaces, maps, wideKeys, modest, calm, conditions, laid).
  DERIVED. THE GIVEN ROWS OF THIS SEAT. 4 by the template 'for every input the law returns true; each argument reads behind the call as it read before'; 0 by the template 'total and deterministic' (their statements: YtjihpmhcalpljaaTotals.lean).
  GIVEN WITH THE SEED: the statements are not yours to turn. If you find one false, say at which input.
  Laid BY PROGRAM, IN A SANDBOX (cutbox-rows.mjs): the forced cells as the released guide's own fill.sh prints them over the translation 4fe51340d68500fd… (all of the seat's roots in one cut). By AI agents, Wed Nov 11 2026. No macro, syntax, notation, axiom, sorry.
-/
import Derived.Test.YtjihpmhcalpljaaChecked
import GoSem.Claim
import GoSem.ClaimJoined
import GoSem.ClaimMapViews
import Derived.JoinedTies
import Derived.KernelRfl
namespace Go.Proofs.Ytjihpmhcalpljaa
/- THE CELL 'sum', in the pinned program and in every row, IS THE sha256 OF THE DUMP (.gsa) THAT YtjihpmhcalpljaaProg.lean LOADS. Nothing in Lean hashes anything: it is a label: what it is worth is what the hold of that sum in a sandbox is worth. -/
noncomputable def Try.pinned : Pinned := { name := "ytjihpmhcalpljaa", sum := "4fe51340d68500fdd3baf0d3956639b271385b6cd1735952f29e7660f61cebe3", checked := Try.checked }
namespace Rows
def none {H : Type} : Left H := { results := [], args := [] }

/-- 'n008_28.FnLocFromTokenASTAgreesWithLocFromTokens': WHATEVER THE INPUT: true; the input reads as it did. -/
def fnLocFromTokenASTAgreesWithLocFromTokensSpec : ChangeSpec := { name := "fnLocFromTokenASTAgreesWithLocFromTokens", fn := fun _ => fun
  | [d1, d2, d3, d4, d5, d6, d7, d8, d9, d10] => { results := [.lit (.bool true)], args := [d1, d2, d3, d4, d5, d6, d7, d8, d9, d10] }
  | _ => none }
def fnLocFromTokenASTAgreesWithLocFromTokensRow : OpenClaim := { program := "ytjihpmhcalpljaa", sum := "4fe51340d68500fdd3baf0d3956639b271385b6cd1735952f29e7660f61cebe3", func := "github.com/google/go-jsonnet/n008_28.FnLocFromTokenASTAgreesWithLocFromTokens", spec := "fnLocFromTokenASTAgreesWithLocFromTokens", unfollowed := true, recurses := true, apart := false }
def FnLocFromTokenASTAgreesWithLocFromTokensSaid : Prop := fnLocFromTokenASTAgreesWithLocFromTokensRow.holds Try.pinned (OpenSpec.ofChange fnLocFromTokenASTAgreesWithLocFromTokensSpec)

/-- ITS FALSE NEIGHBOUR: 'it returns false'. Refute it at one input. -/
def fnLocFromTokenASTAgreesWithLocFromTokensWrong : ChangeSpec := { name := "fnLocFromTokenASTAgreesWithLocFromTokens", fn := fun _ => fun
  | [d1, d2, d3, d4, d5, d6, d7, d8, d9, d10] => { results := [.lit (.bool false)], args := [d1, d2, d3, d4, d5, d6, d7, d8, d9, d10] }
  | _ => none }
def FnLocFromTokenASTAgreesWithLocFromTokensWrongFalsely : Prop := fnLocFromTokenASTAgreesWithLocFromTokensRow.holds Try.pinned (OpenSpec.ofChange fnLocFromTokenASTAgreesWithLocFromTokensWrong)

/-- 'n008_28.FnLocFromTokensAssociative': WHATEVER THE INPUT: true; the input reads as it did. -/
def fnLocFromTokensAssociativeSpec : ChangeSpec := { name := "fnLocFromTokensAssociative", fn := fun _ => fun
  | [d1, d2, d3, d4, d5, d6, d7, d8, d9, d10, d11, d12] => { results := [.lit (.bool true)], args := [d1, d2, d3, d4, d5, d6, d7, d8, d9, d10, d11, d12] }
  | _ => none }
def fnLocFromTokensAssociativeRow : OpenClaim := { program := "ytjihpmhcalpljaa", sum := "4fe51340d68500fdd3baf0d3956639b271385b6cd1735952f29e7660f61cebe3", func := "github.com/google/go-jsonnet/n008_28.FnLocFromTokensAssociative", spec := "fnLocFromTokensAssociative", apart := false }
def FnLocFromTokensAssociativeSaid : Prop := fnLocFromTokensAssociativeRow.holds Try.pinned (OpenSpec.ofChange fnLocFromTokensAssociativeSpec)

/-- ITS FALSE NEIGHBOUR: 'it returns false'. Refute it at one input. -/
def fnLocFromTokensAssociativeWrong : ChangeSpec := { name := "fnLocFromTokensAssociative", fn := fun _ => fun
  | [d1, d2, d3, d4, d5, d6, d7, d8, d9, d10, d11, d12] => { results := [.lit (.bool false)], args := [d1, d2, d3, d4, d5, d6, d7, d8, d9, d10, d11, d12] }
  | _ => none }
def FnLocFromTokensAssociativeWrongFalsely : Prop := fnLocFromTokensAssociativeRow.holds Try.pinned (OpenSpec.ofChange fnLocFromTokensAssociativeWrong)

/-- 'n008_24.FnMakeStaticErrorZeroLocAgreesWithMsgOnly': WHATEVER THE INPUT: true; the input reads as it did. -/
def fnMakeStaticErrorZeroLocAgreesWithMsgOnlySpec : ChangeSpec := { name := "fnMakeStaticErrorZeroLocAgreesWithMsgOnly", fn := fun _ => fun
  | [d] => { results := [.lit (.bool true)], args := [d] }
  | _ => none }
def fnMakeStaticErrorZeroLocAgreesWithMsgOnlyRow : OpenClaim := { program := "ytjihpmhcalpljaa", sum := "4fe51340d68500fdd3baf0d3956639b271385b6cd1735952f29e7660f61cebe3", func := "github.com/google/go-jsonnet/n008_24.FnMakeStaticErrorZeroLocAgreesWithMsgOnly", spec := "fnMakeStaticErrorZeroLocAgreesWithMsgOnly", unfollowed := true, recurses := true, apart := false }
def FnMakeStaticErrorZeroLocAgreesWithMsgOnlySaid : Prop := fnMakeStaticErrorZeroLocAgreesWithMsgOnlyRow.holds Try.pinned (OpenSpec.ofChange fnMakeStaticErrorZeroLocAgreesWithMsgOnlySpec)

/-- ITS FALSE NEIGHBOUR: 'it returns false'. Refute it at one input. -/
def fnMakeStaticErrorZeroLocAgreesWithMsgOnlyWrong : ChangeSpec := { name := "fnMakeStaticErrorZeroLocAgreesWithMsgOnly", fn := fun _ => fun
  | [d] => { results := [.lit (.bool false)], args := [d] }
  | _ => none }
def FnMakeStaticErrorZeroLocAgreesWithMsgOnlyWrongFalsely : Prop := fnMakeStaticErrorZeroLocAgreesWithMsgOnlyRow.holds Try.pinned (OpenSpec.ofChange fnMakeStaticErrorZeroLocAgreesWithMsgOnlyWrong)

/-- 'n008_24.FnMakeStaticErrorKeepsMsgAndLoc': WHATEVER THE INPUT: true; the input reads as it did. -/
def fnMakeStaticErrorKeepsMsgAndLocSpec : ChangeSpec := { name := "fnMakeStaticErrorKeepsMsgAndLoc", fn := fun _ => fun
  | [d1, d2, d3, d4, d5, d6, d7] => { results := [.lit (.bool true)], args := [d1, d2, d3, d4, d5, d6, d7] }
  | _ => none }
def fnMakeStaticErrorKeepsMsgAndLocRow : OpenClaim := { program := "ytjihpmhcalpljaa", sum := "4fe51340d68500fdd3baf0d3956639b271385b6cd1735952f29e7660f61cebe3", func := "github.com/google/go-jsonnet/n008_24.FnMakeStaticErrorKeepsMsgAndLoc", spec := "fnMakeStaticErrorKeepsMsgAndLoc", unfollowed := true, recurses := true, apart := false }
def FnMakeStaticErrorKeepsMsgAndLocSaid : Prop := fnMakeStaticErrorKeepsMsgAndLocRow.holds Try.pinned (OpenSpec.ofChange fnMakeStaticErrorKeepsMsgAndLocSpec)

/-- ITS FALSE NEIGHBOUR: 'it returns false'. Refute it at one input. -/
def fnMakeStaticErrorKeepsMsgAndLocWrong : ChangeSpec := { name := "fnMakeStaticErrorKeepsMsgAndLoc", fn := fun _ => fun
  | [d1, d2, d3, d4, d5, d6, d7] => { results := [.lit (.bool false)], args := [d1, d2, d3, d4, d5, d6, d7] }
  | _ => none }
def FnMakeStaticErrorKeepsMsgAndLocWrongFalsely : Prop := fnMakeStaticErrorKeepsMsgAndLocRow.holds Try.pinned (OpenSpec.ofChange fnMakeStaticErrorKeepsMsgAndLocWrong)

/- THE SECOND FORM. 'bulk': how many values and letters a reading holds, each counted each time it is reached (what is shared counts as often as it is met; a slice's spare places count too). A statement '..UptoSaid' is the law's where the arguments, and the package variables that the reading takes, are together of bulk at most 1048576: NARROWER than '..Said'. Prove '..Said' where nothing that the law and all that it calls make is longer than what came in: it says more and counts as full. Else prove '..UptoSaid'. A law counts once. -/
mutual
def uptoBulk {H : Type} : DataW H → Nat
  | .lit (.string bytes) => bytes.length + 1
  | .lit _ => 1
  | .nil => 1
  | .ptr d => uptoBulk d + 1
  | .slice elems spare => uptoBulkAll elems + uptoBulkAll spare + 1
  | .agg parts => uptoBulkAll parts + 1
  | .iface _ d => uptoBulk d + 1
  | .map entries => uptoBulkEntries entries + 1
  | .held _ => 1
def uptoBulkAll {H : Type} : List (DataW H) → Nat
  | [] => 0
  | d :: r => uptoBulk d + uptoBulkAll r
def uptoBulkEntries {H : Type} : List (Lit × DataW H) → Nat
  | [] => 0
  | x :: r => uptoBulkEntry x + uptoBulkEntries r
def uptoBulkEntry {H : Type} : Lit × DataW H → Nat
  | (.string bytes, d) => bytes.length + uptoBulk d + 1
  | (_, d) => uptoBulk d + 1
 end
def uptoSmall : (H : Type) → List (DataW H) → Bool := fun _ ds => decide (uptoBulkAll ds ≤ 1048576)
def OpenSpec.upto (s : _root_.Go.ChangeSpec) : _root_.Go.OpenSpec := { _root_.Go.OpenSpec.ofChange s with cond := some uptoSmall }

/-- 'n008_28.FnLocFromTokenASTAgreesWithLocFromTokens', WHERE WHAT IT READS IS OF BULK AT MOST 1048576: true; the input reads as it did. -/
def fnLocFromTokenASTAgreesWithLocFromTokensUptoRow : OpenClaim := { program := "ytjihpmhcalpljaa", sum := "4fe51340d68500fdd3baf0d3956639b271385b6cd1735952f29e7660f61cebe3", func := "github.com/google/go-jsonnet/n008_28.FnLocFromTokenASTAgreesWithLocFromTokens", spec := "fnLocFromTokenASTAgreesWithLocFromTokens", unfollowed := true, recurses := true, apart := false, narrowed := true }
def FnLocFromTokenASTAgreesWithLocFromTokensUptoSaid : Prop := fnLocFromTokenASTAgreesWithLocFromTokensUptoRow.holds Try.pinned (OpenSpec.upto fnLocFromTokenASTAgreesWithLocFromTokensSpec)

/-- 'n008_28.FnLocFromTokensAssociative', WHERE WHAT IT READS IS OF BULK AT MOST 1048576: true; the input reads as it did. -/
def fnLocFromTokensAssociativeUptoRow : OpenClaim := { program := "ytjihpmhcalpljaa", sum := "4fe51340d68500fdd3baf0d3956639b271385b6cd1735952f29e7660f61cebe3", func := "github.com/google/go-jsonnet/n008_28.FnLocFromTokensAssociative", spec := "fnLocFromTokensAssociative", apart := false, narrowed := true }
def FnLocFromTokensAssociativeUptoSaid : Prop := fnLocFromTokensAssociativeUptoRow.holds Try.pinned (OpenSpec.upto fnLocFromTokensAssociativeSpec)

/-- 'n008_24.FnMakeStaticErrorZeroLocAgreesWithMsgOnly', WHERE WHAT IT READS IS OF BULK AT MOST 1048576: true; the input reads as it did. -/
def fnMakeStaticErrorZeroLocAgreesWithMsgOnlyUptoRow : OpenClaim := { program := "ytjihpmhcalpljaa", sum := "4fe51340d68500fdd3baf0d3956639b271385b6cd1735952f29e7660f61cebe3", func := "github.com/google/go-jsonnet/n008_24.FnMakeStaticErrorZeroLocAgreesWithMsgOnly", spec := "fnMakeStaticErrorZeroLocAgreesWithMsgOnly", unfollowed := true, recurses := true, apart := false, narrowed := true }
def FnMakeStaticErrorZeroLocAgreesWithMsgOnlyUptoSaid : Prop := fnMakeStaticErrorZeroLocAgreesWithMsgOnlyUptoRow.holds Try.pinned (OpenSpec.upto fnMakeStaticErrorZeroLocAgreesWithMsgOnlySpec)

/-- 'n008_24.FnMakeStaticErrorKeepsMsgAndLoc', WHERE WHAT IT READS IS OF BULK AT MOST 1048576: true; the input reads as it did. -/
def fnMakeStaticErrorKeepsMsgAndLocUptoRow : OpenClaim := { program := "ytjihpmhcalpljaa", sum := "4fe51340d68500fdd3baf0d3956639b271385b6cd1735952f29e7660f61cebe3", func := "github.com/google/go-jsonnet/n008_24.FnMakeStaticErrorKeepsMsgAndLoc", spec := "fnMakeStaticErrorKeepsMsgAndLoc", unfollowed := true, recurses := true, apart := false, narrowed := true }
def FnMakeStaticErrorKeepsMsgAndLocUptoSaid : Prop := fnMakeStaticErrorKeepsMsgAndLocUptoRow.holds Try.pinned (OpenSpec.upto fnMakeStaticErrorKeepsMsgAndLocSpec)

end Rows
end Go.Proofs.Ytjihpmhcalpljaa
