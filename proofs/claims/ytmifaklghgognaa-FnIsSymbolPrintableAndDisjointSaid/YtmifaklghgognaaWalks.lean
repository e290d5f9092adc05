/- The contracts of the parser's character tests and of the two table scans. -/
import Derived.Test.YtmifaklghgognaaProg
import Derived.WalkKit
import Derived.WalkLawsBesides
import Derived.WalkSpells
import Derived.Lib.Hide
namespace Go.Proofs.Ytmifaklghgognaa
open Go.RowKit

def lowB (r : Int) : Bool := decide (97 ≤ r ∧ r ≤ 122)
def uppB (r : Int) : Bool := decide (65 ≤ r ∧ r ≤ 90)
def numB (r : Int) : Bool := decide (48 ≤ r ∧ r ≤ 57)
def firstB (r : Int) : Bool := decide ((65 ≤ r ∧ r ≤ 90) ∨ (97 ≤ r ∧ r ≤ 122) ∨ r = 95)
def identB (r : Int) : Bool := decide ((65 ≤ r ∧ r ≤ 90) ∨ (97 ≤ r ∧ r ≤ 122) ∨ r = 95 ∨ (48 ≤ r ∧ r ≤ 57))

theorem ret_bool {a b : Bool} (h : a = b) : Ending.returned (.bool a) = .returned (.bool b) := by rw [h]
theorem ret_true {p : Prop} [Decidable p] (h : p) : Ending.returned (.bool true) = .returned (.bool (decide p)) := by rw [decide_eq_true h]
theorem ret_false {p : Prop} [Decidable p] (h : ¬ p) : Ending.returned (.bool false) = .returned (.bool (decide p)) := by rw [decide_eq_false h]

theorem isLower_any (r : Int) (w : World) : Calls Try.prog 24 #[.int .i32 r] w fun e w' => e = .returned (.bool (lowB r)) ∧ w = w' := by
  by_cases h1 : 97 ≤ r
  · by_cases h2 : r ≤ 122
    · go_enter Try.func24, Try.ntmps24
      go_wp2
      go_ret
      exact ⟨ret_true (by omega), rfl⟩
    · go_enter Try.func24, Try.ntmps24
      go_wp2
      go_ret
      exact ⟨ret_false (by omega), rfl⟩
  · go_enter Try.func24, Try.ntmps24
    go_wp2
    go_ret
    exact ⟨ret_false (by omega), rfl⟩

theorem isUpper_any (r : Int) (w : World) : Calls Try.prog 25 #[.int .i32 r] w fun e w' => e = .returned (.bool (uppB r)) ∧ w = w' := by
  by_cases h1 : 65 ≤ r
  · by_cases h2 : r ≤ 90
    · go_enter Try.func25, Try.ntmps25
      go_wp2
      go_ret
      exact ⟨ret_true (by omega), rfl⟩
    · go_enter Try.func25, Try.ntmps25
      go_wp2
      go_ret
      exact ⟨ret_false (by omega), rfl⟩
  · go_enter Try.func25, Try.ntmps25
    go_wp2
    go_ret
    exact ⟨ret_false (by omega), rfl⟩

theorem isNumber_any (r : Int) (w : World) : Calls Try.prog 29 #[.int .i32 r] w fun e w' => e = .returned (.bool (numB r)) ∧ w = w' := by
  by_cases h1 : 48 ≤ r
  · by_cases h2 : r ≤ 57
    · go_enter Try.func29, Try.ntmps29
      go_wp2
      go_ret
      exact ⟨ret_true (by omega), rfl⟩
    · go_enter Try.func29, Try.ntmps29
      go_wp2
      go_ret
      exact ⟨ret_false (by omega), rfl⟩
  · go_enter Try.func29, Try.ntmps29
    go_wp2
    go_ret
    exact ⟨ret_false (by omega), rfl⟩

theorem ZZIsLower_any (r : Int) (w : World) : Calls Try.prog 15 #[.int .i32 r] w fun e w' => e = .returned (.bool (lowB r)) ∧ w = w' := by
  go_enter Try.func15, Try.ntmps15
  go_wp2_with (go_at_call 24; refine (isLower_any _ _).mono ?_; rintro e w' ⟨rfl, rfl⟩)
  go_ret
  exact ⟨rfl, rfl⟩
theorem ZZIsUpper_any (r : Int) (w : World) : Calls Try.prog 17 #[.int .i32 r] w fun e w' => e = .returned (.bool (uppB r)) ∧ w = w' := by
  go_enter Try.func17, Try.ntmps17
  go_wp2_with (go_at_call 25; refine (isUpper_any _ _).mono ?_; rintro e w' ⟨rfl, rfl⟩)
  go_ret
  exact ⟨rfl, rfl⟩
theorem ZZisNumber_any (r : Int) (w : World) : Calls Try.prog 22 #[.int .i32 r] w fun e w' => e = .returned (.bool (numB r)) ∧ w = w' := by
  go_enter Try.func22, Try.ntmps22
  go_wp2_with (go_at_call 29; refine (isNumber_any _ _).mono ?_; rintro e w' ⟨rfl, rfl⟩)
  go_ret
  exact ⟨rfl, rfl⟩

/-- Is r one of the bytes of s? -/
def hasB (s : ByteArray) (r : Int) : Bool := s.data.toList.any fun c => decide ((c.toNat : Int) = r)
theorem hasB_true (s : ByteArray) (r : Int) (k : Nat) (h : k < s.size) (e : (s[k].toNat : Int) = r) : hasB s r = true := by
  unfold hasB
  rw [List.any_eq_true]
  exact ⟨s[k], Array.getElem_mem_toList (xs := s.data) h, by simpa using e⟩
theorem hasB_false (s : ByteArray) (r : Int) (h : ∀ k, (h : k < s.size) → (s[k].toNat : Int) ≠ r) : hasB s r = false := by
  unfold hasB
  rw [List.any_eq_false]
  intro x hx
  obtain ⟨i, hi, rfl⟩ := List.getElem_of_mem hx
  have hi' : i < s.size := by rw [Array.length_toList] at hi; exact hi
  have : (s[i].toNat : Int) ≠ r := h i hi'
  exact fun hd => this (of_decide_eq_true hd)

theorem inAlphabet_any (r : Int) (s : ByteArray) (w : World) (hs : s.size ≤ 1000) : Calls Try.prog 16 #[.int .i32 r, .string s] w fun e w' => e = .returned (.bool (hasB s r)) ∧ w = w' := by
  go_enter Try.func16, Try.ntmps16
  go_wp2
  go_loop [5] (fun i => ∃ k : Nat, k ≤ s.size ∧ i = .int .i64 k ∧ Hid (∀ j, (h : j < k) → (h' : j < s.size) → (s[j].toNat : Int) ≠ r)) (fun i => s.size - (intOf i).toNat)
  case atStart => exact ⟨0, Nat.zero_le _, rfl, fun j h => absurd h (by omega)⟩
  case round =>
    obtain ⟨k, hk, rfl, hno⟩ := hrel
    by_cases hlt : k < s.size
    · have hbd : (s[k].toNat : Int) ≤ 255 := by have := s[k].toNat_lt; omega
      by_cases he : (s[k].toNat : Int) = r
      · have hb : ((s[k].toNat : Int) == r) = true := by simpa using he
        have HE := Lib.hid he
        clear he
        go_wp2
        go_ret
        exact ⟨ret_bool (hasB_true s r k hlt HE.out).symm, rfl⟩
      · have hb : ((s[k].toNat : Int) == r) = false := by simpa using he
        have HE := Lib.hid he
        clear he
        go_wp2
        go_round
        case rel => exact ⟨k + 1, by omega, by go_num, fun j h h' => by
          by_cases e : j = k
          · subst e; exact HE.out
          · exact hno j (by omega) h'⟩
        case measure => simp [intOf]; omega
    · go_wp2
      go_ret
      exact ⟨ret_bool (hasB_false s r fun j h => hno j (by omega) h).symm, rfl⟩

theorem scanHas_any (r : Int) (s : ByteArray) (w : World) (hs : s.size ≤ 1000) : Calls Try.prog 21 #[.string s, .int .i32 r] w fun e w' => e = .returned (.bool (hasB s r)) ∧ w = w' := by
  go_enter Try.func21, Try.ntmps21
  go_wp2
  go_loop [5] (fun i => ∃ k : Nat, k ≤ s.size ∧ i = .int .i64 k ∧ Hid (∀ j, (h : j < k) → (h' : j < s.size) → (s[j].toNat : Int) ≠ r)) (fun i => s.size - (intOf i).toNat)
  case atStart => exact ⟨0, Nat.zero_le _, rfl, fun j h => absurd h (by omega)⟩
  case round =>
    obtain ⟨k, hk, rfl, hno⟩ := hrel
    by_cases hlt : k < s.size
    · have hbd : (s[k].toNat : Int) ≤ 255 := by have := s[k].toNat_lt; omega
      by_cases he : (s[k].toNat : Int) = r
      · have hb : ((s[k].toNat : Int) == r) = true := by simpa using he
        have HE := Lib.hid he
        clear he
        go_wp2
        go_ret
        exact ⟨ret_bool (hasB_true s r k hlt HE.out).symm, rfl⟩
      · have hb : ((s[k].toNat : Int) == r) = false := by simpa using he
        have HE := Lib.hid he
        clear he
        go_wp2
        go_round
        case rel => exact ⟨k + 1, by omega, by go_num, fun j h h' => by
          by_cases e : j = k
          · subst e; exact HE.out
          · exact hno j (by omega) h'⟩
        case measure => simp [intOf]; omega
    · go_wp2
      go_ret
      exact ⟨ret_bool (hasB_false s r fun j h => hno j (by omega) h).symm, rfl⟩

end Go.Proofs.Ytmifaklghgognaa
