/- The builder's node: for every code. -/
import Derived.Test.YtfmmpllnhmehnaaOp0
import Derived.Test.YtfmmpllnhmehnaaOp1
import Derived.Test.YtfmmpllnhmehnaaOp2
import Derived.Test.YtfmmpllnhmehnaaOp3
import Derived.Test.YtfmmpllnhmehnaaOp4
import Derived.Test.YtfmmpllnhmehnaaOp5
import Derived.Test.YtfmmpllnhmehnaaOp6
import Derived.Test.YtfmmpllnhmehnaaOp7a
import Derived.Test.YtfmmpllnhmehnaaOp7b
namespace Go.Proofs.Ytfmmpllnhmehnaa
open Go.RowKit
theorem node_any (N : Nat) (ol fl : List Nat) (hN : ol.length = N) (hN2 : N ≤ 4096) (hfl : fl.length ≤ 4096) : ∀ r, NodeC N ol fl r := by
  intro r
  induction r with
  | zero =>
    intro w K vo vf pos slot next hr hp hK ho hf hns hs
    have e : pos = N := by omega
    subst e
    exact node_leaf pos ol fl hN hfl w K vo vf slot next hK ho hf hns (by omega)
  | succ r ih =>
    intro w K vo vf pos slot next hr hp hK ho hf hns hs
    by_cases hlt : pos = N
    · subst hlt
      exact node_leaf pos ol fl hN hfl w K vo vf slot next hK ho hf hns (by omega)
    · have hp2 : pos < N := by omega
      obtain ⟨x, hx⟩ : ∃ x, ol[pos]? = some x := ⟨ol[pos]'(by omega), by simp [hN, hp2]⟩
      have h8 : x % 8 < 8 := Nat.mod_lt _ (by omega)
      rcases (by omega : x % 8 = 0 ∨ x % 8 = 1 ∨ x % 8 = 2 ∨ x % 8 = 3 ∨ x % 8 = 4 ∨ x % 8 = 5 ∨ x % 8 = 6 ∨ x % 8 = 7) with h | h | h | h | h | h | h | h
      · exact node_op0 N r ol fl ih hN hN2 hfl w K vo vf pos slot next x hp2 hr hK ho hf hns hs hx (by omega)
      · exact node_op1 N r ol fl ih hN hN2 hfl w K vo vf pos slot next x hp2 hr hK ho hf hns hs hx (by omega)
      · exact node_op2 N r ol fl ih hN hN2 hfl w K vo vf pos slot next x hp2 hr hK ho hf hns hs hx (by omega)
      · exact node_op3 N r ol fl ih hN hN2 hfl w K vo vf pos slot next x hp2 hr hK ho hf hns hs hx (by omega)
      · exact node_op4 N r ol fl ih hN hN2 hfl w K vo vf pos slot next x hp2 hr hK ho hf hns hs hx (by omega)
      · exact node_op5 N r ol fl ih hN hN2 hfl w K vo vf pos slot next x hp2 hr hK ho hf hns hs hx (by omega)
      · exact node_op6 N r ol fl ih hN hN2 hfl w K vo vf pos slot next x hp2 hr hK ho hf hns hs hx (by omega)
      · by_cases hl : pos + 1 = N
        · exact node_op7a N r ol fl hN hN2 hfl w K vo vf pos slot next x hl hr hK ho hf hns hs hx (by omega)
        · have hl2 : pos + 1 < N := by omega
          obtain ⟨y, hy⟩ : ∃ y, ol[pos + 1]? = some y := ⟨ol[pos + 1]'(by omega), by simp [hN, hl2]⟩
          exact node_op7b N r ol fl ih hN hN2 hfl w K vo vf pos slot next x hl2 y (y % 3) hy (by omega) (by omega) hr hK ho hf hns hs hx (by omega)
end Go.Proofs.Ytfmmpllnhmehnaa
