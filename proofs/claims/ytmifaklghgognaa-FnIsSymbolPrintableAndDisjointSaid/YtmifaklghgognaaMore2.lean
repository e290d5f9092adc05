/- Counting the symbols among the first code points. -/
import Derived.Test.YtmifaklghgognaaMore
namespace Go.Proofs.Ytmifaklghgognaa
open Go.RowKit
theorem symCount_up (k : Int) (h0 : 0 ≤ k) (h : symB k = true) : symCount (k + 1).toNat = symCount k.toNat + 1 := by
  obtain ⟨n, rfl⟩ := Int.eq_ofNat_of_zero_le h0
  show symCount (n + 1) = symCount n + 1
  have h : symB (n : Int) = true := h
  show symCount n + _ = _
  rw [h]
  rfl
theorem symCount_same (k : Int) (h0 : 0 ≤ k) (h : symB k = false) : symCount (k + 1).toNat = symCount k.toNat := by
  obtain ⟨n, rfl⟩ := Int.eq_ofNat_of_zero_le h0
  show symCount (n + 1) = symCount n
  have h : symB (n : Int) = false := h
  show symCount n + _ = _
  rw [h]
  rfl
theorem sym_fifteen (k m : Int) (h : k ≤ 128) (h' : 128 ≤ k) (hm : m = symCount k.toNat) : m = 15 := by
  have e : k.toNat = 128 := by omega
  rw [e, symCount_128] at hm
  exact hm
end Go.Proofs.Ytmifaklghgognaa
