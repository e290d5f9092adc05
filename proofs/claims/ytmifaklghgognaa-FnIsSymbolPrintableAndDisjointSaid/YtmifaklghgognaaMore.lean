/- More plain laws on letters: folding by bit 32, digits, the shift by case. -/
import Derived.Test.YtmifaklghgognaaPlain
import Derived.Laws.BitsAllLaws
import Derived.Laws.Cover4
import Derived.OpenShut
namespace Go.Proofs.Ytmifaklghgognaa
open Go.RowKit

theorem num_ident (r : Int) : numB r = (identB r && !firstB r) := by
  by_cases h : firstB r = true
  · rw [h, ident_first r h]
    have h := of_decide_eq_true h
    exact decide_eq_false (by omega)
  · have h : firstB r = false := by simpa using h
    rw [h, ident_not r h]
    simp
theorem valid_low (r : Int) (h : uppB r = false) (h' : (r == 95) = false) : validB (Utf8.encode r) = lowB r := by
  rw [valid_one]
  by_cases hl : lowB r = true
  · rw [hl, first_low r hl]
  · have hl : lowB r = false := by simpa using hl
    rw [hl, first_not r h hl, h']
theorem upp_shift (r : Int) : uppB (r - 32) = lowB r := by
  by_cases hl : lowB r = true
  · rw [hl]
    have hl := of_decide_eq_true hl
    exact decide_eq_true (by omega)
  · have hl : lowB r = false := by simpa using hl
    rw [hl]
    have hl := of_decide_eq_false hl
    exact decide_eq_false (by omega)
theorem low_not (r : Int) (h : lowB r = true) : uppB r = false := by
  have h := of_decide_eq_true h
  exact decide_eq_false (by omega)

theorem small_fold : ∀ n : Fin 128, (decide (97 ≤ (n.val ||| 32) ∧ (n.val ||| 32) ≤ 122) || decide (n.val = 95)) = decide ((65 ≤ n.val ∧ n.val ≤ 90) ∨ (97 ≤ n.val ∧ n.val ≤ 122) ∨ n.val = 95) := by decide +kernel
theorem bits_or (r : Int) (h0 : -2147483648 ≤ r) (h1 : r ≤ 2147483647) : (0 ≤ r → bits .or .i32 r 32 = ((r.toNat ||| 32 : Nat) : Int)) ∧ (r < 0 → bits .or .i32 r 32 < 0) := by
  have hd : bits .or .i32 r 32 = IntKind.i32.wrap ((BitVec.ofInt 32 r ||| BitVec.ofInt 32 32).toNat : Int) := rfl
  have h32 : (BitVec.ofInt 32 32).toNat = 32 := by decide
  have hr : (BitVec.ofInt 32 r).toNat = (r % 4294967296).toNat := by rw [BitVec.toNat_ofInt]; rfl
  rw [hd, BitVec.toNat_or, h32, hr, IntKind.wrap_i32]
  have hlt : (r % 4294967296).toNat ||| 32 < 2 ^ 32 := Nat.or_lt_two_pow (by omega) (by omega)
  have hge : (r % 4294967296).toNat ≤ (r % 4294967296).toNat ||| 32 := Nat.left_le_or
  constructor
  · intro h
    have e : (r % 4294967296).toNat = r.toNat := by omega
    rw [e] at *
    have hlt' : r.toNat ||| 32 < 2 ^ 31 := Nat.or_lt_two_pow (by omega) (by omega)
    omega
  · intro h
    omega
theorem fold_first (r : Int) (w : (Lit.int .i32 r).wf = true) : firstB r = (decide (97 ≤ bits .or .i32 r 32 ∧ bits .or .i32 r 32 ≤ 122) || (r == 95)) := by
  obtain ⟨h0, h1⟩ := bounds_i32 w
  obtain ⟨hp, hn⟩ := bits_or r h0 h1
  by_cases h : r < 0
  · have := hn h
    rw [decide_eq_false (by omega), Bool.false_or]
    have e : (r == 95) = false := by simp; omega
    rw [e]
    exact decide_eq_false (by omega)
  · rw [hp (by omega)]
    by_cases hs : r < 128
    · have hf := small_fold ⟨r.toNat, by omega⟩
      simp only at hf
      have e1 : (decide (97 ≤ ((r.toNat ||| 32 : Nat) : Int) ∧ ((r.toNat ||| 32 : Nat) : Int) ≤ 122)) = decide (97 ≤ (r.toNat ||| 32) ∧ (r.toNat ||| 32) ≤ 122) := by
        rw [decide_eq_decide]; omega
      have e2 : (r == 95) = decide (r.toNat = 95) := by rw [Bool.eq_iff_iff]; simp; omega
      rw [e1, e2, hf]
      unfold firstB
      rw [decide_eq_decide]
      omega
    · have hge : r.toNat ≤ r.toNat ||| 32 := Nat.left_le_or
      rw [decide_eq_false (by omega), Bool.false_or]
      have e : (r == 95) = false := by simp; omega
      rw [e]
      exact decide_eq_false (by omega)
end Go.Proofs.Ytmifaklghgognaa
