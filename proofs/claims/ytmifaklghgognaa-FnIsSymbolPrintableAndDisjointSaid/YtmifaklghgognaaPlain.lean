/- Plain laws: which one-rune texts, and which texts of an x and one rune, are identifiers; what the tables hold. -/
import Derived.Test.YtmifaklghgognaaIdents
namespace Go.Proofs.Ytmifaklghgognaa
open Go.RowKit

theorem enc_ascii (r : Int) (h0 : 0 ≤ r) (h1 : r < 128) : Utf8.encode r = ⟨#[UInt8.ofNat r.toNat]⟩ := by
  have hv : Utf8.valid r = true := by simp [Utf8.valid]; omega
  have hc : r.toNat < 128 := by omega
  simp only [Utf8.encode, hv, if_true, hc]
theorem enc_high (r : Int) (h : ¬ (0 ≤ r ∧ r < 128)) : 0 < (Utf8.encode r).size ∧ ∀ h : 0 < (Utf8.encode r).size, 128 ≤ ((Utf8.encode r)[0]'h).toNat := by
  obtain ⟨c, hc, hlo, hhi⟩ : ∃ c : Nat, (if Utf8.valid r then r.toNat else Utf8.runeError) = c ∧ 128 ≤ c ∧ c ≤ 1114111 := by
    refine ⟨_, rfl, ?_⟩
    by_cases hv : Utf8.valid r = true
    · rw [if_pos hv]
      simp only [Utf8.valid, Bool.or_eq_true, Bool.and_eq_true, decide_eq_true_eq] at hv
      omega
    · rw [if_neg hv]
      simp [Utf8.runeError]
  unfold Utf8.encode
  simp only [hc, if_neg (show ¬ c < 128 by omega)]
  split
  · refine ⟨by show 0 < 2; omega, fun _ => ?_⟩
    show 128 ≤ (UInt8.ofNat (192 + c / 64)).toNat
    rw [UInt8.toNat_ofNat']
    omega
  · split
    · refine ⟨by show 0 < 3; omega, fun _ => ?_⟩
      show 128 ≤ (UInt8.ofNat (224 + c / 4096)).toNat
      rw [UInt8.toNat_ofNat']
      omega
    · refine ⟨by show 0 < 4; omega, fun _ => ?_⟩
      show 128 ≤ (UInt8.ofNat (240 + c / 262144)).toNat
      rw [UInt8.toNat_ofNat']
      omega

theorem byte_of (r : Int) (h0 : 0 ≤ r) (h1 : r < 128) : ((UInt8.ofNat r.toNat).toNat : Int) = r := by
  rw [UInt8.toNat_ofNat']
  omega
theorem first_high (r : Int) (h : 128 ≤ r) : firstB r = false := decide_eq_false (by omega)
theorem ident_high (r : Int) (h : 128 ≤ r) : identB r = false := decide_eq_false (by omega)
theorem first_bad (r : Int) (h : ¬ (0 ≤ r ∧ r < 128)) : firstB r = false := decide_eq_false (by omega)
theorem ident_bad (r : Int) (h : ¬ (0 ≤ r ∧ r < 128)) : identB r = false := decide_eq_false (by omega)
theorem kind_one (b : UInt8) : kindL [b] = 10 := by simp [kindL]
theorem kind_x (b : List UInt8) : kindL (120 :: b) = 10 := by simp [kindL]

theorem valid_one (r : Int) : validB (Utf8.encode r) = firstB r := by
  by_cases h : 0 ≤ r ∧ r < 128
  · obtain ⟨h0, h1⟩ := h
    have hb := byte_of r h0 h1
    rw [enc_ascii r h0 h1]
    have hk : kindL (⟨#[UInt8.ofNat r.toNat]⟩ : ByteArray).toList = 10 := by rw [ByteArray.toList_eq]; exact kind_one _
    have hd := decode_ascii ⟨#[UInt8.ofNat r.toNat]⟩ 0 (by show 0 < 1; omega) (by show (UInt8.ofNat r.toNat).toNat < 128; omega)
    have hr : ((Utf8.decode ⟨#[UInt8.ofNat r.toNat]⟩ 0).1 : Int) = r := by rw [hd]; exact hb
    have hs : (⟨#[UInt8.ofNat r.toNat]⟩ : ByteArray).size = 1 := rfl
    rw [validB, hk, hs]
    simp only [okFrom, hs, hr]
    simp
  · obtain ⟨hp, hh⟩ := enc_high r h
    have hd := decode_high (Utf8.encode r) 0 hp (hh hp)
    rw [first_bad r h, validB]
    obtain ⟨m, hm⟩ : ∃ m, (Utf8.encode r).size = m + 1 := ⟨(Utf8.encode r).size - 1, by omega⟩
    have hf := okFrom_first_not (Utf8.encode r) m 0 hp rfl (first_high _ (by omega))
    rw [hm, hf]
    simp

theorem get_x (e : ByteArray) (k : Nat) (h : k < e.size) (h' : k + 1 < ((⟨#[120]⟩ : ByteArray) ++ e).size) : ((⟨#[120]⟩ : ByteArray) ++ e)[k + 1]'h' = e[k] := by
  rw [ByteArray.getElem_append_right (by show 1 ≤ k + 1; omega)]
  rfl
theorem valid_x (r : Int) : validB ((⟨#[120]⟩ : ByteArray) ++ Utf8.encode r) = identB r := by
  have hx : kindL ((⟨#[120]⟩ : ByteArray) ++ Utf8.encode r).toList = 10 := by
    rw [ByteArray.toList_eq, ByteArray.data_append, Array.toList_append]
    exact kind_x _
  have hs : ((⟨#[120]⟩ : ByteArray) ++ Utf8.encode r).size = 1 + (Utf8.encode r).size := by rw [ByteArray.size_append]; rfl
  have h0 : ((⟨#[120]⟩ : ByteArray) ++ Utf8.encode r)[0]'(by omega) = 120 := by
    rw [ByteArray.getElem_append_left (by show 0 < 1; omega)]
    rfl
  have hd0 : Utf8.decode ((⟨#[120]⟩ : ByteArray) ++ Utf8.encode r) 0 = (120, 1) := by
    rw [decode_ascii _ 0 (by omega) (by rw [h0]; decide), h0]
    rfl
  have hf0 : ∀ m, okFrom ((⟨#[120]⟩ : ByteArray) ++ Utf8.encode r) (m + 1) 0 = okFrom ((⟨#[120]⟩ : ByteArray) ++ Utf8.encode r) m 1 := fun m => by
    rw [okFrom_first _ m 0 (by omega) rfl (by rw [hd0]; rfl), hd0]
    rfl
  rw [validB, hx, decide_eq_true (by omega)]
  by_cases h : 0 ≤ r ∧ r < 128
  · obtain ⟨h1, h2⟩ := h
    have hb := byte_of r h1 h2
    have he : (Utf8.encode r).size = 1 := by rw [enc_ascii r h1 h2]; rfl
    have h1' : ((⟨#[120]⟩ : ByteArray) ++ Utf8.encode r)[1]'(by omega) = UInt8.ofNat r.toNat := by
      rw [get_x _ 0 (by omega)]
      simp only [enc_ascii r h1 h2]
      rfl
    have hd1 : Utf8.decode ((⟨#[120]⟩ : ByteArray) ++ Utf8.encode r) 1 = ((UInt8.ofNat r.toNat).toNat, 1) := by
      rw [decode_ascii _ 1 (by omega) (by rw [h1']; omega), h1']
    have hs2 : ((⟨#[120]⟩ : ByteArray) ++ Utf8.encode r).size = 1 + 1 := by omega
    rw [hs2, hf0 1]
    by_cases hi : identB r = true
    · rw [okFrom_next _ 0 1 (by omega) (by omega) (by rw [hd1]; simp only [hb]; exact hi), hi]
      rfl
    · have hi : identB r = false := by simpa using hi
      rw [okFrom_next_not _ 0 1 (by omega) (by omega) (by rw [hd1]; simp only [hb]; exact hi), hi]
      rfl
  · obtain ⟨hp, hh⟩ := enc_high r h
    have hd := decode_high ((⟨#[120]⟩ : ByteArray) ++ Utf8.encode r) 1 (by omega) (by rw [get_x _ 0 hp]; exact hh hp)
    obtain ⟨m, hm⟩ : ∃ m, (Utf8.encode r).size = m + 1 := ⟨(Utf8.encode r).size - 1, by omega⟩
    have hs2 : ((⟨#[120]⟩ : ByteArray) ++ Utf8.encode r).size = m + 1 + 1 := by omega
    rw [ident_bad r h, hs2, hf0 (m + 1), okFrom_next_not _ m 1 (by omega) (by omega) (ident_high _ (by omega))]
    rfl

theorem has_low (r : Int) : hasB ⟨#[97, 98, 99, 100, 101, 102, 103, 104, 105, 106, 107, 108, 109, 110, 111, 112, 113, 114, 115, 116, 117, 118, 119, 120, 121, 122]⟩ r = lowB r := by
  rw [Bool.eq_iff_iff]
  simp [hasB, lowB]
  omega
theorem has_upp (r : Int) : hasB ⟨#[65, 66, 67, 68, 69, 70, 71, 72, 73, 74, 75, 76, 77, 78, 79, 80, 81, 82, 83, 84, 85, 86, 87, 88, 89, 90]⟩ r = uppB r := by
  rw [Bool.eq_iff_iff]
  simp [hasB, uppB]
  omega
theorem has_num (r : Int) : hasB ⟨#[48, 49, 50, 51, 52, 53, 54, 55, 56, 57]⟩ r = numB r := by
  rw [Bool.eq_iff_iff]
  simp [hasB, numB]
  omega
theorem has_ident (r : Int) : hasB ⟨#[48, 49, 50, 51, 52, 53, 54, 55, 56, 57, 65, 66, 67, 68, 69, 70, 71, 72, 73, 74, 75, 76, 77, 78, 79, 80, 81, 82, 83, 84, 85, 86, 87, 88, 89, 90, 95, 97, 98, 99, 100, 101, 102, 103, 104, 105, 106, 107, 108, 109, 110, 111, 112, 113, 114, 115, 116, 117, 118, 119, 120, 121, 122]⟩ r = identB r := by
  rw [Bool.eq_iff_iff]
  simp [hasB, identB]
  omega
theorem has_sym (r : Int) : hasB ⟨#[33, 36, 58, 126, 43, 45, 38, 124, 94, 61, 60, 62, 42, 47, 37]⟩ r = symB r := by
  rw [Bool.eq_iff_iff]
  simp [hasB, symB]
  omega
theorem sym_lo (r : Int) (h : symB r = true) : ¬ r < 33 ∧ ¬ 126 < r ∧ identB r = false ∧ firstB r = false ∧ numB r = false := by
  simp only [symB, Bool.or_eq_true, beq_iff_eq] at h
  exact ⟨by omega, by omega, decide_eq_false (by omega), decide_eq_false (by omega), decide_eq_false (by omega)⟩
/-- The symbols among the first n code points. -/
def symCount : Nat → Nat
  | 0 => 0
  | n + 1 => symCount n + if symB (n : Int) then 1 else 0
theorem symCount_le : ∀ n, symCount n ≤ n
  | 0 => Nat.le_refl _
  | n + 1 => by
    have := symCount_le n
    unfold symCount
    split <;> omega
theorem symCount_128 : symCount 128 = 15 := by decide +kernel
end Go.Proofs.Ytmifaklghgognaa
