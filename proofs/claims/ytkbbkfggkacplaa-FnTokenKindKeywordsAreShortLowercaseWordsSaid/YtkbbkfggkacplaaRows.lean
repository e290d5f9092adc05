/-
  No cell of these rows narrows 'for every input' (looked for: loops, veiled, ifaces, maps, wideKeys, modest, calm, conditions, laid).
  DERIVED. THE GIVEN ROWS OF THIS SEAT. 7 by the template 'for every input the law returns true; each argument reads behind the call as it read before'; 0 by the template 'total and deterministic' (their statements: YtkbbkfggkacplaaTotals.lean).
  GIVEN WITH THE SEED: the statements are not yours to turn. If you find one false, say at which input.
  Laid BY PROGRAM, IN A SANDBOX (cutbox-rows.mjs): the forced cells as the released guide's own fill.sh prints them over the translation 0bee203464c0f74f… (all of the seat's roots in one cut). By AI agents, Wed Nov 11 2026. No macro, syntax, notation, axiom, sorry.
-/
import Derived.Test.YtkbbkfggkacplaaChecked
import GoSem.Claim
import GoSem.ClaimJoined
import GoSem.ClaimMapViews
import Derived.JoinedTies
import Derived.KernelRfl
namespace Go.Proofs.Ytkbbkfggkacplaa
/- THE CELL 'sum', in the pinned program and in every row, IS THE sha256 OF THE DUMP (.gsa) THAT YtkbbkfggkacplaaProg.lean LOADS. Nothing in Lean hashes anything: it is a label: what it is worth is what the hold of that sum in a sandbox is worth. -/
noncomputable def Try.pinned : Pinned := { name := "ytkbbkfggkacplaa", sum := "0bee203464c0f74f9793114df36e2de9750b80d457468681b35b2d7c69aac18e", checked := Try.checked }
namespace Rows
def none {H : Type} : Left H := { results := [], args := [] }

/-- 'n008_3.FnTighterPrecedenceMonotoneCollides12': WHATEVER THE INPUT: true; the input reads as it did. -/
def fnTighterPrecedenceMonotoneCollides12Spec : ChangeSpec := { name := "fnTighterPrecedenceMonotoneCollides12", fn := fun _ => fun
  | [d1, d2] => { results := [.lit (.bool true)], args := [d1, d2] }
  | _ => none }
def fnTighterPrecedenceMonotoneCollides12Row : OpenClaim := { program := "ytkbbkfggkacplaa", sum := "0bee203464c0f74f9793114df36e2de9750b80d457468681b35b2d7c69aac18e", func := "github.com/google/go-jsonnet/n008_3.FnTighterPrecedenceMonotoneCollides12", spec := "fnTighterPrecedenceMonotoneCollides12", apart := false }
def FnTighterPrecedenceMonotoneCollides12Said : Prop := fnTighterPrecedenceMonotoneCollides12Row.holds Try.pinned (OpenSpec.ofChange fnTighterPrecedenceMonotoneCollides12Spec)

/-- ITS FALSE NEIGHBOUR: 'it returns false'. Refute it at one input. -/
def fnTighterPrecedenceMonotoneCollides12Wrong : ChangeSpec := { name := "fnTighterPrecedenceMonotoneCollides12", fn := fun _ => fun
  | [d1, d2] => { results := [.lit (.bool false)], args := [d1, d2] }
  | _ => none }
def FnTighterPrecedenceMonotoneCollides12WrongFalsely : Prop := fnTighterPrecedenceMonotoneCollides12Row.holds Try.pinned (OpenSpec.ofChange fnTighterPrecedenceMonotoneCollides12Wrong)

/-- 'n008_5.FnTokenKindKeywordRoundTrip': WHATEVER THE INPUT: true; the input reads as it did. -/
def fnTokenKindKeywordRoundTripSpec : ChangeSpec := { name := "fnTokenKindKeywordRoundTrip", fn := fun _ => fun
  | [d] => { results := [.lit (.bool true)], args := [d] }
  | _ => none }
def fnTokenKindKeywordRoundTripRow : OpenClaim := { program := "ytkbbkfggkacplaa", sum := "0bee203464c0f74f9793114df36e2de9750b80d457468681b35b2d7c69aac18e", func := "github.com/google/go-jsonnet/n008_5.FnTokenKindKeywordRoundTrip", spec := "fnTokenKindKeywordRoundTrip", apart := false }
def FnTokenKindKeywordRoundTripSaid : Prop := fnTokenKindKeywordRoundTripRow.holds Try.pinned (OpenSpec.ofChange fnTokenKindKeywordRoundTripSpec)

/-- ITS FALSE NEIGHBOUR: 'it returns false'. Refute it at one input. -/
def fnTokenKindKeywordRoundTripWrong : ChangeSpec := { name := "fnTokenKindKeywordRoundTrip", fn := fun _ => fun
  | [d] => { results := [.lit (.bool false)], args := [d] }
  | _ => none }
def FnTokenKindKeywordRoundTripWrongFalsely : Prop := fnTokenKindKeywordRoundTripRow.holds Try.pinned (OpenSpec.ofChange fnTokenKindKeywordRoundTripWrong)

/-- 'n008_5.FnCheckWhitespaceMatchesModel': WHATEVER THE INPUT: true; the input reads as it did. -/
def fnCheckWhitespaceMatchesModelSpec : ChangeSpec := { name := "fnCheckWhitespaceMatchesModel", fn := fun _ => fun
  | [d1, d2] => { results := [.lit (.bool true)], args := [d1, d2] }
  | _ => none }
def fnCheckWhitespaceMatchesModelRow : OpenClaim := { program := "ytkbbkfggkacplaa", sum := "0bee203464c0f74f9793114df36e2de9750b80d457468681b35b2d7c69aac18e", func := "github.com/google/go-jsonnet/n008_5.FnCheckWhitespaceMatchesModel", spec := "fnCheckWhitespaceMatchesModel", apart := false }
def FnCheckWhitespaceMatchesModelSaid : Prop := fnCheckWhitespaceMatchesModelRow.holds Try.pinned (OpenSpec.ofChange fnCheckWhitespaceMatchesModelSpec)

/-- ITS FALSE NEIGHBOUR: 'it returns false'. Refute it at one input. -/
def fnCheckWhitespaceMatchesModelWrong : ChangeSpec := { name := "fnCheckWhitespaceMatchesModel", fn := fun _ => fun
  | [d1, d2] => { results := [.lit (.bool false)], args := [d1, d2] }
  | _ => none }
def FnCheckWhitespaceMatchesModelWrongFalsely : Prop := fnCheckWhitespaceMatchesModelRow.holds Try.pinned (OpenSpec.ofChange fnCheckWhitespaceMatchesModelWrong)

/-- 'n008_5.FnCheckWhitespaceStableUnderExtension': WHATEVER THE INPUT: true; the input reads as it did. -/
def fnCheckWhitespaceStableUnderExtensionSpec : ChangeSpec := { name := "fnCheckWhitespaceStableUnderExtension", fn := fun _ => fun
  | [d1, d2, d3] => { results := [.lit (.bool true)], args := [d1, d2, d3] }
  | _ => none }
def fnCheckWhitespaceStableUnderExtensionRow : OpenClaim := { program := "ytkbbkfggkacplaa", sum := "0bee203464c0f74f9793114df36e2de9750b80d457468681b35b2d7c69aac18e", func := "github.com/google/go-jsonnet/n008_5.FnCheckWhitespaceStableUnderExtension", spec := "fnCheckWhitespaceStableUnderExtension", apart := false }
def FnCheckWhitespaceStableUnderExtensionSaid : Prop := fnCheckWhitespaceStableUnderExtensionRow.holds Try.pinned (OpenSpec.ofChange fnCheckWhitespaceStableUnderExtensionSpec)

/-- ITS FALSE NEIGHBOUR: 'it returns false'. Refute it at one input. -/
def fnCheckWhitespaceStableUnderExtensionWrong : ChangeSpec := { name := "fnCheckWhitespaceStableUnderExtension", fn := fun _ => fun
  | [d1, d2, d3] => { results := [.lit (.bool false)], args := [d1, d2, d3] }
  | _ => none }
def FnCheckWhitespaceStableUnderExtensionWrongFalsely : Prop := fnCheckWhitespaceStableUnderExtensionRow.holds Try.pinned (OpenSpec.ofChange fnCheckWhitespaceStableUnderExtensionWrong)

/-- 'n008_3.FnTighterPrecedenceStepsSaturate': WHATEVER THE INPUT: true; the input reads as it did. -/
def fnTighterPrecedenceStepsSaturateSpec : ChangeSpec := { name := "fnTighterPrecedenceStepsSaturate", fn := fun _ => fun
  | [d1, d2] => { results := [.lit (.bool true)], args := [d1, d2] }
  | _ => none }
def fnTighterPrecedenceStepsSaturateRow : OpenClaim := { program := "ytkbbkfggkacplaa", sum := "0bee203464c0f74f9793114df36e2de9750b80d457468681b35b2d7c69aac18e", func := "github.com/google/go-jsonnet/n008_3.FnTighterPrecedenceStepsSaturate", spec := "fnTighterPrecedenceStepsSaturate", apart := false }
def FnTighterPrecedenceStepsSaturateSaid : Prop := fnTighterPrecedenceStepsSaturateRow.holds Try.pinned (OpenSpec.ofChange fnTighterPrecedenceStepsSaturateSpec)

/-- ITS FALSE NEIGHBOUR: 'it returns false'. Refute it at one input. -/
def fnTighterPrecedenceStepsSaturateWrong : ChangeSpec := { name := "fnTighterPrecedenceStepsSaturate", fn := fun _ => fun
  | [d1, d2] => { results := [.lit (.bool false)], args := [d1, d2] }
  | _ => none }
def FnTighterPrecedenceStepsSaturateWrongFalsely : Prop := fnTighterPrecedenceStepsSaturateRow.holds Try.pinned (OpenSpec.ofChange fnTighterPrecedenceStepsSaturateWrong)

/-- 'n008_5.FnCheckWhitespaceTransitive': WHATEVER THE INPUT: true; the input reads as it did. -/
def fnCheckWhitespaceTransitiveSpec : ChangeSpec := { name := "fnCheckWhitespaceTransitive", fn := fun _ => fun
  | [d1, d2, d3] => { results := [.lit (.bool true)], args := [d1, d2, d3] }
  | _ => none }
def fnCheckWhitespaceTransitiveRow : OpenClaim := { program := "ytkbbkfggkacplaa", sum := "0bee203464c0f74f9793114df36e2de9750b80d457468681b35b2d7c69aac18e", func := "github.com/google/go-jsonnet/n008_5.FnCheckWhitespaceTransitive", spec := "fnCheckWhitespaceTransitive", apart := false }
def FnCheckWhitespaceTransitiveSaid : Prop := fnCheckWhitespaceTransitiveRow.holds Try.pinned (OpenSpec.ofChange fnCheckWhitespaceTransitiveSpec)

/-- ITS FALSE NEIGHBOUR: 'it returns false'. Refute it at one input. -/
def fnCheckWhitespaceTransitiveWrong : ChangeSpec := { name := "fnCheckWhitespaceTransitive", fn := fun _ => fun
  | [d1, d2, d3] => { results := [.lit (.bool false)], args := [d1, d2, d3] }
  | _ => none }
def FnCheckWhitespaceTransitiveWrongFalsely : Prop := fnCheckWhitespaceTransitiveRow.holds Try.pinned (OpenSpec.ofChange fnCheckWhitespaceTransitiveWrong)

/-- 'n008_5.FnTokenKindKeywordsAreShortLowercaseWords': WHATEVER THE INPUT: true; the input reads as it did. -/
def fnTokenKindKeywordsAreShortLowercaseWordsSpec : ChangeSpec := { name := "fnTokenKindKeywordsAreShortLowercaseWords", fn := fun _ => fun
  | [d] => { results := [.lit (.bool true)], args := [d] }
  | _ => none }
def fnTokenKindKeywordsAreShortLowercaseWordsRow : OpenClaim := { program := "ytkbbkfggkacplaa", sum := "0bee203464c0f74f9793114df36e2de9750b80d457468681b35b2d7c69aac18e", func := "github.com/google/go-jsonnet/n008_5.FnTokenKindKeywordsAreShortLowercaseWords", spec := "fnTokenKindKeywordsAreShortLowercaseWords", apart := false }
def FnTokenKindKeywordsAreShortLowercaseWordsSaid : Prop := fnTokenKindKeywordsAreShortLowercaseWordsRow.holds Try.pinned (OpenSpec.ofChange fnTokenKindKeywordsAreShortLowercaseWordsSpec)

/-- ITS FALSE NEIGHBOUR: 'it returns false'. Refute it at one input. -/
def fnTokenKindKeywordsAreShortLowercaseWordsWrong : ChangeSpec := { name := "fnTokenKindKeywordsAreShortLowercaseWords", fn := fun _ => fun
  | [d] => { results := [.lit (.bool false)], args := [d] }
  | _ => none }
def FnTokenKindKeywordsAreShortLowercaseWordsWrongFalsely : Prop := fnTokenKindKeywordsAreShortLowercaseWordsRow.holds Try.pinned (OpenSpec.ofChange fnTokenKindKeywordsAreShortLowercaseWordsWrong)

/- THE SECOND FORM. 'bulk': how many values and letters a reading holds, each counted each time it is reached (what is shared counts as often as it is met; a slice's spare places count too). A statement '..UptoSaid' is the law's where the arguments, and the package variables that the reading takes, are together of bulk at most 1048576: NARROWER than '..Said'. Prove '..Said' where nothing that the law and all that it calls make is longer than what came in: it says more and counts as full. Else prove '..UptoSaid'. A law counts once. -/
mutual
def uptoBulk {H : Type} : DataW H → Nat
  | .lit (.string bytes) => bytes.length + 1
  | .lit _ => 1
  | .nil => 1
  | .ptr d => uptoBulk d + 1
  | .slice elems spare => uptoBulkAll elems + uptoBulkAll spare + 1
  | .agg parts => uptoBulkAll parts + 1
  | .iface _ d => uptoBulk d + 1
  | .map entries => uptoBulkEntries entries + 1
  | .held _ => 1
def uptoBulkAll {H : Type} : List (DataW H) → Nat
  | [] => 0
  | d :: r => uptoBulk d + uptoBulkAll r
def uptoBulkEntries {H : Type} : List (Lit × DataW H) → Nat
  | [] => 0
  | x :: r => uptoBulkEntry x + uptoBulkEntries r
def uptoBulkEntry {H : Type} : Lit × DataW H → Nat
  | (.string bytes, d) => bytes.length + uptoBulk d + 1
  | (_, d) => uptoBulk d + 1
 end
def uptoSmall : (H : Type) → List (DataW H) → Bool := fun _ ds => decide (uptoBulkAll ds ≤ 1048576)
def OpenSpec.upto (s : _root_.Go.ChangeSpec) : _root_.Go.OpenSpec := { _root_.Go.OpenSpec.ofChange s with cond := some uptoSmall }

/-- 'n008_3.FnTighterPrecedenceMonotoneCollides12', WHERE WHAT IT READS IS OF BULK AT MOST 1048576: true; the input reads as it did. -/
def fnTighterPrecedenceMonotoneCollides12UptoRow : OpenClaim := { program := "ytkbbkfggkacplaa", sum := "0bee203464c0f74f9793114df36e2de9750b80d457468681b35b2d7c69aac18e", func := "github.com/google/go-jsonnet/n008_3.FnTighterPrecedenceMonotoneCollides12", spec := "fnTighterPrecedenceMonotoneCollides12", apart := false, narrowed := true }
def FnTighterPrecedenceMonotoneCollides12UptoSaid : Prop := fnTighterPrecedenceMonotoneCollides12UptoRow.holds Try.pinned (OpenSpec.upto fnTighterPrecedenceMonotoneCollides12Spec)

/-- 'n008_5.FnTokenKindKeywordRoundTrip', WHERE WHAT IT READS IS OF BULK AT MOST 1048576: true; the input reads as it did. -/
def fnTokenKindKeywordRoundTripUptoRow : OpenClaim := { program := "ytkbbkfggkacplaa", sum := "0bee203464c0f74f9793114df36e2de9750b80d457468681b35b2d7c69aac18e", func := "github.com/google/go-jsonnet/n008_5.FnTokenKindKeywordRoundTrip", spec := "fnTokenKindKeywordRoundTrip", apart := false, narrowed := true }
def FnTokenKindKeywordRoundTripUptoSaid : Prop := fnTokenKindKeywordRoundTripUptoRow.holds Try.pinned (OpenSpec.upto fnTokenKindKeywordRoundTripSpec)

/-- 'n008_5.FnCheckWhitespaceMatchesModel', WHERE WHAT IT READS IS OF BULK AT MOST 1048576: true; the input reads as it did. -/
def fnCheckWhitespaceMatchesModelUptoRow : OpenClaim := { program := "ytkbbkfggkacplaa", sum := "0bee203464c0f74f9793114df36e2de9750b80d457468681b35b2d7c69aac18e", func := "github.com/google/go-jsonnet/n008_5.FnCheckWhitespaceMatchesModel", spec := "fnCheckWhitespaceMatchesModel", apart := false, narrowed := true }
def FnCheckWhitespaceMatchesModelUptoSaid : Prop := fnCheckWhitespaceMatchesModelUptoRow.holds Try.pinned (OpenSpec.upto fnCheckWhitespaceMatchesModelSpec)

/-- 'n008_5.FnCheckWhitespaceStableUnderExtension', WHERE WHAT IT READS IS OF BULK AT MOST 1048576: true; the input reads as it did. -/
def fnCheckWhitespaceStableUnderExtensionUptoRow : OpenClaim := { program := "ytkbbkfggkacplaa", sum := "0bee203464c0f74f9793114df36e2de9750b80d457468681b35b2d7c69aac18e", func := "github.com/google/go-jsonnet/n008_5.FnCheckWhitespaceStableUnderExtension", spec := "fnCheckWhitespaceStableUnderExtension", apart := false, narrowed := true }
def FnCheckWhitespaceStableUnderExtensionUptoSaid : Prop := fnCheckWhitespaceStableUnderExtensionUptoRow.holds Try.pinned (OpenSpec.upto fnCheckWhitespaceStableUnderExtensionSpec)

/-- 'n008_3.FnTighterPrecedenceStepsSaturate', WHERE WHAT IT READS IS OF BULK AT MOST 1048576: true; the input reads as it did. -/
def fnTighterPrecedenceStepsSaturateUptoRow : OpenClaim := { program := "ytkbbkfggkacplaa", sum := "0bee203464c0f74f9793114df36e2de9750b80d457468681b35b2d7c69aac18e", func := "github.com/google/go-jsonnet/n008_3.FnTighterPrecedenceStepsSaturate", spec := "fnTighterPrecedenceStepsSaturate", apart := false, narrowed := true }
def FnTighterPrecedenceStepsSaturateUptoSaid : Prop := fnTighterPrecedenceStepsSaturateUptoRow.holds Try.pinned (OpenSpec.upto fnTighterPrecedenceStepsSaturateSpec)

/-- 'n008_5.FnCheckWhitespaceTransitive', WHERE WHAT IT READS IS OF BULK AT MOST 1048576: true; the input reads as it did. -/
def fnCheckWhitespaceTransitiveUptoRow : OpenClaim := { program := "ytkbbkfggkacplaa", sum := "0bee203464c0f74f9793114df36e2de9750b80d457468681b35b2d7c69aac18e", func := "github.com/google/go-jsonnet/n008_5.FnCheckWhitespaceTransitive", spec := "fnCheckWhitespaceTransitive", apart := false, narrowed := true }
def FnCheckWhitespaceTransitiveUptoSaid : Prop := fnCheckWhitespaceTransitiveUptoRow.holds Try.pinned (OpenSpec.upto fnCheckWhitespaceTransitiveSpec)

/-- 'n008_5.FnTokenKindKeywordsAreShortLowercaseWords', WHERE WHAT IT READS IS OF BULK AT MOST 1048576: true; the input reads as it did. -/
def fnTokenKindKeywordsAreShortLowercaseWordsUptoRow : OpenClaim := { program := "ytkbbkfggkacplaa", sum := "0bee203464c0f74f9793114df36e2de9750b80d457468681b35b2d7c69aac18e", func := "github.com/google/go-jsonnet/n008_5.FnTokenKindKeywordsAreShortLowercaseWords", spec := "fnTokenKindKeywordsAreShortLowercaseWords", apart := false, narrowed := true }
def FnTokenKindKeywordsAreShortLowercaseWordsUptoSaid : Prop := fnTokenKindKeywordsAreShortLowercaseWordsUptoRow.holds Try.pinned (OpenSpec.upto fnTokenKindKeywordsAreShortLowercaseWordsSpec)

end Rows
end Go.Proofs.Ytkbbkfggkacplaa
