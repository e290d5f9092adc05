/- Plain facts on the keyword table. -/
import Derived.Test.YtkbbkfggkacplaaWalks2
namespace Go.Proofs.Ytkbbkfggkacplaa
open Go.RowKit
def kws : List (List UInt8) := [[97, 115, 115, 101, 114, 116], [101, 108, 115, 101], [101, 114, 114, 111, 114], [102, 97, 108, 115, 101], [102, 111, 114], [102, 117, 110, 99, 116, 105, 111, 110], [105, 102], [105, 109, 112, 111, 114, 116], [105, 109, 112, 111, 114, 116, 115, 116, 114], [105, 109, 112, 111, 114, 116, 98, 105, 110], [105, 110], [108, 111, 99, 97, 108], [110, 117, 108, 108], [115, 101, 108, 102], [115, 117, 112, 101, 114], [116, 97, 105, 108, 115, 116, 114, 105, 99, 116], [116, 104, 101, 110], [116, 114, 117, 101]]
theorem kind_cases (l : List UInt8) : kindL l = 10 ∨ l ∈ kws := by
  by_cases h0 : (l == [97, 115, 115, 101, 114, 116]) = true
  · exact .inr (by rw [eq_of_beq h0]; decide)
  by_cases h1 : (l == [101, 108, 115, 101]) = true
  · exact .inr (by rw [eq_of_beq h1]; decide)
  by_cases h2 : (l == [101, 114, 114, 111, 114]) = true
  · exact .inr (by rw [eq_of_beq h2]; decide)
  by_cases h3 : (l == [102, 97, 108, 115, 101]) = true
  · exact .inr (by rw [eq_of_beq h3]; decide)
  by_cases h4 : (l == [102, 111, 114]) = true
  · exact .inr (by rw [eq_of_beq h4]; decide)
  by_cases h5 : (l == [102, 117, 110, 99, 116, 105, 111, 110]) = true
  · exact .inr (by rw [eq_of_beq h5]; decide)
  by_cases h6 : (l == [105, 102]) = true
  · exact .inr (by rw [eq_of_beq h6]; decide)
  by_cases h7 : (l == [105, 109, 112, 111, 114, 116]) = true
  · exact .inr (by rw [eq_of_beq h7]; decide)
  by_cases h8 : (l == [105, 109, 112, 111, 114, 116, 115, 116, 114]) = true
  · exact .inr (by rw [eq_of_beq h8]; decide)
  by_cases h9 : (l == [105, 109, 112, 111, 114, 116, 98, 105, 110]) = true
  · exact .inr (by rw [eq_of_beq h9]; decide)
  by_cases h10 : (l == [105, 110]) = true
  · exact .inr (by rw [eq_of_beq h10]; decide)
  by_cases h11 : (l == [108, 111, 99, 97, 108]) = true
  · exact .inr (by rw [eq_of_beq h11]; decide)
  by_cases h12 : (l == [110, 117, 108, 108]) = true
  · exact .inr (by rw [eq_of_beq h12]; decide)
  by_cases h13 : (l == [115, 101, 108, 102]) = true
  · exact .inr (by rw [eq_of_beq h13]; decide)
  by_cases h14 : (l == [115, 117, 112, 101, 114]) = true
  · exact .inr (by rw [eq_of_beq h14]; decide)
  by_cases h15 : (l == [116, 97, 105, 108, 115, 116, 114, 105, 99, 116]) = true
  · exact .inr (by rw [eq_of_beq h15]; decide)
  by_cases h16 : (l == [116, 104, 101, 110]) = true
  · exact .inr (by rw [eq_of_beq h16]; decide)
  by_cases h17 : (l == [116, 114, 117, 101]) = true
  · exact .inr (by rw [eq_of_beq h17]; decide)
  exact .inl (by unfold kindL; rw [if_neg h0, if_neg h1, if_neg h2, if_neg h3, if_neg h4, if_neg h5, if_neg h6, if_neg h7, if_neg h8, if_neg h9, if_neg h10, if_neg h11, if_neg h12, if_neg h13, if_neg h14, if_neg h15, if_neg h16, if_neg h17])
theorem kws_spell : ∀ l ∈ kws, ((spellB (kindL l - 18)).toList == l) = true := by decide +kernel
theorem kws_len : ∀ l ∈ kws, 2 ≤ l.length ∧ l.length ≤ 10 := by decide +kernel
theorem kws_low : ∀ l ∈ kws, ∀ c ∈ l, 97 ≤ c.toNat ∧ c.toNat ≤ 122 := by decide +kernel
/-- A word with its first letter as a capital. -/
def capL : List UInt8 → List UInt8
  | [] => []
  | x :: xs => (x - 32) :: xs
theorem kws_cap : ∀ l ∈ kws, kindL (capL l) = 10 := by decide +kernel
theorem spell_kind (l : List UInt8) (h : kindL l ≠ 10) : ((spellB (kindL l - 18)).toList == l) = true := by
  rcases kind_cases l with h' | h'
  · exact absurd h' h
  · exact kws_spell l h'
end Go.Proofs.Ytkbbkfggkacplaa
