/- The contracts of isIdentifierFirst, isIdentifier, isSymbol, getTokenKindFromID and IsValidIdentifier. -/
import Derived.Test.YtmifaklghgognaaWalks
import Derived.Laws.RangeAny
namespace Go.Proofs.Ytmifaklghgognaa
open Go.RowKit

def kindL (l : List UInt8) : Int :=
  if (l == [97, 115, 115, 101, 114, 116]) = true then 18
  else if (l == [101, 108, 115, 101]) = true then 19
  else if (l == [101, 114, 114, 111, 114]) = true then 20
  else if (l == [102, 97, 108, 115, 101]) = true then 21
  else if (l == [102, 111, 114]) = true then 22
  else if (l == [102, 117, 110, 99, 116, 105, 111, 110]) = true then 23
  else if (l == [105, 102]) = true then 24
  else if (l == [105, 109, 112, 111, 114, 116]) = true then 25
  else if (l == [105, 109, 112, 111, 114, 116, 115, 116, 114]) = true then 26
  else if (l == [105, 109, 112, 111, 114, 116, 98, 105, 110]) = true then 27
  else if (l == [105, 110]) = true then 28
  else if (l == [108, 111, 99, 97, 108]) = true then 29
  else if (l == [110, 117, 108, 108]) = true then 30
  else if (l == [115, 101, 108, 102]) = true then 31
  else if (l == [115, 117, 112, 101, 114]) = true then 32
  else if (l == [116, 97, 105, 108, 115, 116, 114, 105, 99, 116]) = true then 33
  else if (l == [116, 104, 101, 110]) = true then 34
  else if (l == [116, 114, 117, 101]) = true then 35
  else 10

def symB (r : Int) : Bool := (r == 33) || (r == 36) || (r == 58) || (r == 126) || (r == 43) || (r == 45) || (r == 38) || (r == 124) || (r == 94) || (r == 61) || (r == 60) || (r == 62) || (r == 42) || (r == 47) || (r == 37)

theorem isSymbol_any (r : Int) (w : World) : Calls Try.prog 30 #[.int .i32 r] w fun e w' => e = .returned (.bool (symB r)) ∧ w = w' := by
  go_enter Try.func30, Try.ntmps30
  go_wp2
  all_goals
    go_ret
    exact ⟨ret_bool (by simp only [symB, *]; rfl), rfl⟩
theorem ZZisSymbol_any (r : Int) (w : World) : Calls Try.prog 23 #[.int .i32 r] w fun e w' => e = .returned (.bool (symB r)) ∧ w = w' := by
  go_enter Try.func23, Try.ntmps23
  go_wp2_with (go_at_call 30; refine (isSymbol_any _ _).mono ?_; rintro e w' ⟨rfl, rfl⟩)
  go_ret
  exact ⟨rfl, rfl⟩

theorem ret_int {k : IntKind} {a b : Int} (h : a = b) : Ending.returned (.int k a) = .returned (.int k b) := by rw [h]
set_option maxHeartbeats 400000 in
theorem kind_any (s : ByteArray) (w : World) : Calls Try.prog 28 #[.string s] w fun e w' => e = .returned (.int .i64 (kindL s.toList)) ∧ w = w' := by
  go_enter Try.func28, Try.ntmps28
  go_wp2
  all_goals
    go_ret
    exact ⟨ret_int (by simp only [kindL, *]; rfl), rfl⟩

theorem first_upp (r : Int) (h : uppB r = true) : firstB r = true := by
  have h := of_decide_eq_true h
  exact decide_eq_true (by omega)
theorem first_low (r : Int) (h : lowB r = true) : firstB r = true := by
  have h := of_decide_eq_true h
  exact decide_eq_true (by omega)
theorem first_not (r : Int) (h : uppB r = false) (h' : lowB r = false) : firstB r = (r == 95) := by
  have h := of_decide_eq_false h
  have h' := of_decide_eq_false h'
  by_cases e : r = 95
  · subst e; rfl
  · have : firstB r = false := decide_eq_false (by omega)
    rw [this]
    simpa using e
theorem isIdentifierFirst_any (r : Int) (w : World) : Calls Try.prog 27 #[.int .i32 r] w fun e w' => e = .returned (.bool (firstB r)) ∧ w = w' := by
  by_cases hu : uppB r = true
  · go_enter Try.func27, Try.ntmps27
    go_wp2_with (go_at_call 25; refine (isUpper_any _ _).mono ?_; rintro e w' ⟨rfl, rfl⟩)
    go_ret
    exact ⟨ret_bool (first_upp r hu).symm, rfl⟩
  · have hu : uppB r = false := by simpa using hu
    by_cases hl : lowB r = true
    · go_enter Try.func27, Try.ntmps27
      go_wp2_with (first | (go_at_call 25; refine (isUpper_any _ _).mono ?_; rintro e w' ⟨rfl, rfl⟩) | (go_at_call 24; refine (isLower_any _ _).mono ?_; rintro e w' ⟨rfl, rfl⟩))
      go_ret
      exact ⟨ret_bool (first_low r hl).symm, rfl⟩
    · have hl : lowB r = false := by simpa using hl
      go_enter Try.func27, Try.ntmps27
      go_wp2_with (first | (go_at_call 25; refine (isUpper_any _ _).mono ?_; rintro e w' ⟨rfl, rfl⟩) | (go_at_call 24; refine (isLower_any _ _).mono ?_; rintro e w' ⟨rfl, rfl⟩))
      go_ret
      exact ⟨ret_bool (first_not r hu hl).symm, rfl⟩

theorem ident_first (r : Int) (h : firstB r = true) : identB r = true := by
  have h := of_decide_eq_true h
  exact decide_eq_true (by omega)
theorem ident_not (r : Int) (h : firstB r = false) : identB r = numB r := by
  have h := of_decide_eq_false h
  by_cases e : numB r = true
  · rw [e]
    have e := of_decide_eq_true e
    exact decide_eq_true (by omega)
  · have e : numB r = false := by simpa using e
    rw [e]
    have e := of_decide_eq_false e
    exact decide_eq_false (by omega)
theorem isIdentifier_any (r : Int) (w : World) : Calls Try.prog 26 #[.int .i32 r] w fun e w' => e = .returned (.bool (identB r)) ∧ w = w' := by
  by_cases hu : firstB r = true
  · go_enter Try.func26, Try.ntmps26
    go_wp2_with (go_at_call 27; refine (isIdentifierFirst_any _ _).mono ?_; rintro e w' ⟨rfl, rfl⟩)
    go_ret
    exact ⟨ret_bool (ident_first r hu).symm, rfl⟩
  · have hu : firstB r = false := by simpa using hu
    go_enter Try.func26, Try.ntmps26
    go_wp2_with (first | (go_at_call 27; refine (isIdentifierFirst_any _ _).mono ?_; rintro e w' ⟨rfl, rfl⟩) | (go_at_call 29; refine (isNumber_any _ _).mono ?_; rintro e w' ⟨rfl, rfl⟩))
    go_ret
    exact ⟨ret_bool (ident_not r hu).symm, rfl⟩
theorem ZZisIdentifier_any (r : Int) (w : World) : Calls Try.prog 18 #[.int .i32 r] w fun e w' => e = .returned (.bool (identB r)) ∧ w = w' := by
  go_enter Try.func18, Try.ntmps18
  go_wp2_with (go_at_call 26; refine (isIdentifier_any _ _).mono ?_; rintro e w' ⟨rfl, rfl⟩)
  go_ret
  exact ⟨rfl, rfl⟩
theorem ZZisIdentifierFirst_any (r : Int) (w : World) : Calls Try.prog 20 #[.int .i32 r] w fun e w' => e = .returned (.bool (firstB r)) ∧ w = w' := by
  go_enter Try.func20, Try.ntmps20
  go_wp2_with (go_at_call 27; refine (isIdentifierFirst_any _ _).mono ?_; rintro e w' ⟨rfl, rfl⟩)
  go_ret
  exact ⟨rfl, rfl⟩

theorem width_pos (s : ByteArray) (pos : Nat) (h : pos < s.size) : 1 ≤ (Utf8.decode s pos).2 := by
  by_cases ha : (s[pos]'h).toNat < 128
  · rw [decode_ascii s pos h ha]
    exact Nat.le_refl _
  · exact (decode_high s pos h (by omega)).2
/-- Are the runes from place pos on an identifier's? -/
def okFrom (s : ByteArray) : Nat → Nat → Bool
  | 0, _ => true
  | fuel + 1, pos => if pos < s.size then (if pos = 0 then firstB (Utf8.decode s pos).1 else identB (Utf8.decode s pos).1) && okFrom s fuel (pos + (Utf8.decode s pos).2) else true
def validB (s : ByteArray) : Bool := decide (0 < s.size) && okFrom s s.size 0 && (kindL s.toList == 10)
theorem okFrom_end (s : ByteArray) (fuel pos : Nat) (h : ¬ pos < s.size) : okFrom s fuel pos = true := by cases fuel <;> simp [okFrom, h]

theorem okFrom_first (s : ByteArray) (fuel pos : Nat) (h : pos < s.size) (hz : pos = 0) (hg : firstB (Utf8.decode s pos).1 = true) : okFrom s (fuel + 1) pos = okFrom s fuel (pos + (Utf8.decode s pos).2) := by
  rw [okFrom, if_pos h, if_pos hz, hg, Bool.true_and]
theorem okFrom_first_not (s : ByteArray) (fuel pos : Nat) (h : pos < s.size) (hz : pos = 0) (hg : firstB (Utf8.decode s pos).1 = false) : okFrom s (fuel + 1) pos = false := by
  rw [okFrom, if_pos h, if_pos hz, hg, Bool.false_and]
theorem okFrom_next (s : ByteArray) (fuel pos : Nat) (h : pos < s.size) (hz : ¬ pos = 0) (hg : identB (Utf8.decode s pos).1 = true) : okFrom s (fuel + 1) pos = okFrom s fuel (pos + (Utf8.decode s pos).2) := by
  rw [okFrom, if_pos h, if_neg hz, hg, Bool.true_and]
theorem okFrom_next_not (s : ByteArray) (fuel pos : Nat) (h : pos < s.size) (hz : ¬ pos = 0) (hg : identB (Utf8.decode s pos).1 = false) : okFrom s (fuel + 1) pos = false := by
  rw [okFrom, if_pos h, if_neg hz, hg, Bool.false_and]

theorem isValid_any (s : ByteArray) (w : World) : Calls Try.prog 19 #[.string s] w fun e w' => e = .returned (.bool (validB s)) ∧ Below w.heap.size w w' := by
  by_cases h0 : s.size = 0
  · have hb : ((s.size : Int) == 0) = true := by simp [h0]
    have HE := Lib.hid h0
    clear h0
    go_enter Try.func19, Try.ntmps19
    go_wp2
    go_ret
    exact ⟨ret_bool (by simp [validB, HE.out]), Below.refl _ _⟩
  · have hb : ((s.size : Int) == 0) = false := by simpa using h0
    have hpos : 0 < s.size := by omega
    clear h0
    go_enter Try.func19, Try.ntmps19
    go_wp2
    go_loopw [] (fun w' => ∃ pos fuel : Nat, w' = w.iter s pos ∧ s.size ≤ pos + fuel ∧ Hid (okFrom s s.size 0 = okFrom s fuel pos)) (fun w' => s.size - w'.iterPos w.heap.size)
    case atStart => exact ⟨0, s.size, rfl, by omega, rfl⟩
    case round =>
      obtain ⟨pos, fuel, rfl, hf, hok⟩ := hrel
      by_cases hp : pos < s.size
      · have hnx : ∀ ty, (Instr.next (.pointer (some ⟨w.heap.size, 0, none⟩)) true ty).run Try.prog (w.iter s pos) = _ := fun ty => run_next_any w s pos ty hp
        have hwd := width_pos s pos hp
        cases fuel with
        | zero => omega
        | succ fuel =>
          by_cases hz : pos = 0
          · have hzb : ((pos : Int) == 0) = true := by simp [hz]
            have HZ := Lib.hid hz
            clear hz
            by_cases hg : firstB (Utf8.decode s pos).1 = true
            · go_wp2_with (go_at_call 27; refine (isIdentifierFirst_any _ _).mono ?_; rintro e w' ⟨rfl, rfl⟩)
              go_roundw
              case rel => exact ⟨pos + (Utf8.decode s pos).2, fuel, rfl, by omega, hok.out.trans (okFrom_first s fuel pos hp HZ.out hg)⟩
              case measure => simp; omega
            · have hg : firstB (Utf8.decode s pos).1 = false := by simpa using hg
              go_wp2_with (go_at_call 27; refine (isIdentifierFirst_any _ _).mono ?_; rintro e w' ⟨rfl, rfl⟩)
              go_ret
              exact ⟨ret_bool (by rw [validB, hok.out, okFrom_first_not s fuel pos hp HZ.out hg]; simp), (Below.refl _ _).alloc (Nat.le_refl _) _⟩
          · have hzb : ((pos : Int) == 0) = false := by simpa using hz
            by_cases hg : identB (Utf8.decode s pos).1 = true
            · go_wp2_with (go_at_call 26; refine (isIdentifier_any _ _).mono ?_; rintro e w' ⟨rfl, rfl⟩)
              go_roundw
              case rel => exact ⟨pos + (Utf8.decode s pos).2, fuel, rfl, by omega, hok.out.trans (okFrom_next s fuel pos hp (by omega) hg)⟩
              case measure => simp; omega
            · have hg : identB (Utf8.decode s pos).1 = false := by simpa using hg
              go_wp2_with (go_at_call 26; refine (isIdentifier_any _ _).mono ?_; rintro e w' ⟨rfl, rfl⟩)
              go_ret
              exact ⟨ret_bool (by rw [validB, hok.out, okFrom_next_not s fuel pos hp (by omega) hg]; simp), (Below.refl _ _).alloc (Nat.le_refl _) _⟩
      · have hnx : ∀ ty, (Instr.next (.pointer (some ⟨w.heap.size, 0, none⟩)) true ty).run Try.prog (w.iter s pos) = _ := fun ty => run_next_end w s pos ty hp
        go_wp2_with (go_at_call 28; refine (kind_any _ _).mono ?_; rintro e w' ⟨rfl, rfl⟩)
        go_ret
        exact ⟨ret_bool (by rw [validB, decide_eq_true hpos, hok.out, okFrom_end s fuel pos hp]; rfl), (Below.refl _ _).alloc (Nat.le_refl _) _⟩

end Go.Proofs.Ytmifaklghgognaa
