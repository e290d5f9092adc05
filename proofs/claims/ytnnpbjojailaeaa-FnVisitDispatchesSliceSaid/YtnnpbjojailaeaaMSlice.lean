/- Base.Slice under the recording pass, every shape. -/
import Derived.Test.YtnnpbjojailaeaaMSl0
import Derived.Test.YtnnpbjojailaeaaMSl1
namespace Go.Proofs.Ytnnpbjojailaeaa
open Go.RowKit
def IsNode (v : Value) (b : Bool) : Prop := if b then ∃ a, v = .iface 64 (.pointer (some a)) else v = .nilIface
theorem slice_any {w0 w : World} {B : Nat} {es : List Ev} (h : RecE w0 w B es) (hn : es.length ≤ 1000) (b ctx : Value) (U : Nat) (cu : Array Value) (hU : w.heap[U]? = some (.cells cu 71 (0, 0))) (b2 b4 b6 : Bool) (v2 v4 v6 : Value)
    (h2 : cu[2]? = some v2) (h4 : cu[4]? = some v4) (h6 : cu[6]? = some v6) (i2 : IsNode v2 b2) (i4 : IsNode v4 b4) (i6 : IsNode v6 b6) (hUB : U ≠ B) :
    Calls Try.prog 8 #[b, .iface 24 (.pointer (some ⟨B, 0, none⟩)), .pointer (some ⟨U, 0, none⟩), ctx] w fun e w' => e = .returned (.tuple #[]) ∧ RecE w0 w' B (es ++ evSl0 U b2 b4 b6) ∧ Kept37 B w w' := by
  unfold IsNode at i2 i4 i6
  cases b2 <;> cases b4 <;> cases b6 <;> simp only [Bool.false_eq_true, if_false, if_true] at i2 i4 i6
  · subst i2; subst i4; subst i6; exact slice_000 h hn b ctx U cu hU  h2 h4 h6 hUB
  · subst i2; subst i4; obtain ⟨a6, rfl⟩ := i6; exact slice_001 h hn b ctx U cu hU a6 h2 h4 h6 hUB
  · subst i2; obtain ⟨a4, rfl⟩ := i4; subst i6; exact slice_010 h hn b ctx U cu hU a4 h2 h4 h6 hUB
  · subst i2; obtain ⟨a4, rfl⟩ := i4; obtain ⟨a6, rfl⟩ := i6; exact slice_011 h hn b ctx U cu hU a4 a6 h2 h4 h6 hUB
  · obtain ⟨a2, rfl⟩ := i2; subst i4; subst i6; exact slice_100 h hn b ctx U cu hU a2 h2 h4 h6 hUB
  · obtain ⟨a2, rfl⟩ := i2; subst i4; obtain ⟨a6, rfl⟩ := i6; exact slice_101 h hn b ctx U cu hU a2 a6 h2 h4 h6 hUB
  · obtain ⟨a2, rfl⟩ := i2; obtain ⟨a4, rfl⟩ := i4; subst i6; exact slice_110 h hn b ctx U cu hU a2 a4 h2 h4 h6 hUB
  · obtain ⟨a2, rfl⟩ := i2; obtain ⟨a4, rfl⟩ := i4; obtain ⟨a6, rfl⟩ := i6; exact slice_111 h hn b ctx U cu hU a2 a4 a6 h2 h4 h6 hUB
end Go.Proofs.Ytnnpbjojailaeaa
