/- The contracts of the keyword test, the keyword table, the indentation test and their kin. -/
import Derived.Test.YtkbbkfggkacplaaProg
import Derived.Test.YtkbbkfggkacplaaPlainW
import Derived.WalkKit
import Derived.WalkLawsBesides
import Derived.WalkSpells
import Derived.Lib.Hide
import Derived.Deep.QuietTactic
import Derived.BigQuiet
namespace Go.Proofs.Ytkbbkfggkacplaa
open Go.RowKit

theorem ret_bool {a b : Bool} (h : a = b) : Ending.returned (.bool a) = .returned (.bool b) := by rw [h]
theorem ret_true {p : Prop} [Decidable p] (h : p) : Ending.returned (.bool true) = .returned (.bool (decide p)) := by rw [decide_eq_true h]
theorem ret_false {p : Prop} [Decidable p] (h : ¬ p) : Ending.returned (.bool false) = .returned (.bool (decide p)) := by rw [decide_eq_false h]
theorem ret_int {k : IntKind} {a b : Int} (h : a = b) : Ending.returned (.int k a) = .returned (.int k b) := by rw [h]
theorem ret_str {a b : ByteArray} (h : a = b) : Ending.returned (.string a) = .returned (.string b) := by rw [h]

def kindL (l : List UInt8) : Int :=
  if (l == [97, 115, 115, 101, 114, 116]) = true then 18
  else if (l == [101, 108, 115, 101]) = true then 19
  else if (l == [101, 114, 114, 111, 114]) = true then 20
  else if (l == [102, 97, 108, 115, 101]) = true then 21
  else if (l == [102, 111, 114]) = true then 22
  else if (l == [102, 117, 110, 99, 116, 105, 111, 110]) = true then 23
  else if (l == [105, 102]) = true then 24
  else if (l == [105, 109, 112, 111, 114, 116]) = true then 25
  else if (l == [105, 109, 112, 111, 114, 116, 115, 116, 114]) = true then 26
  else if (l == [105, 109, 112, 111, 114, 116, 98, 105, 110]) = true then 27
  else if (l == [105, 110]) = true then 28
  else if (l == [108, 111, 99, 97, 108]) = true then 29
  else if (l == [110, 117, 108, 108]) = true then 30
  else if (l == [115, 101, 108, 102]) = true then 31
  else if (l == [115, 117, 112, 101, 114]) = true then 32
  else if (l == [116, 97, 105, 108, 115, 116, 114, 105, 99, 116]) = true then 33
  else if (l == [116, 104, 101, 110]) = true then 34
  else if (l == [116, 114, 117, 101]) = true then 35
  else 10
set_option maxHeartbeats 400000 in
theorem kind_any (s : ByteArray) (w : World) : Calls Try.prog 21 #[.string s] w fun e w' => e = .returned (.int .i64 (kindL s.toList)) ∧ w = w' := by
  go_enter Try.func21, Try.ntmps21
  go_wp2
  all_goals
    go_ret
    exact ⟨ret_int (by simp only [kindL, *]; rfl), rfl⟩
theorem zzKind_any (s : ByteArray) (w : World) : Calls Try.prog 12 #[.string s] w fun e w' => e = .returned (.int .i64 (kindL s.toList)) ∧ w = w' := by
  go_enter Try.func12, Try.ntmps12
  go_wp2_with (go_at_call 21; refine (kind_any _ _).mono ?_; rintro e w' ⟨rfl, rfl⟩)
  go_ret
  exact ⟨rfl, rfl⟩
def spellB (i : Int) : ByteArray :=
  if (i == 0) = true then ⟨#[97, 115, 115, 101, 114, 116]⟩
  else if (i == 1) = true then ⟨#[101, 108, 115, 101]⟩
  else if (i == 2) = true then ⟨#[101, 114, 114, 111, 114]⟩
  else if (i == 3) = true then ⟨#[102, 97, 108, 115, 101]⟩
  else if (i == 4) = true then ⟨#[102, 111, 114]⟩
  else if (i == 5) = true then ⟨#[102, 117, 110, 99, 116, 105, 111, 110]⟩
  else if (i == 6) = true then ⟨#[105, 102]⟩
  else if (i == 7) = true then ⟨#[105, 109, 112, 111, 114, 116]⟩
  else if (i == 8) = true then ⟨#[105, 109, 112, 111, 114, 116, 115, 116, 114]⟩
  else if (i == 9) = true then ⟨#[105, 109, 112, 111, 114, 116, 98, 105, 110]⟩
  else if (i == 10) = true then ⟨#[105, 110]⟩
  else if (i == 11) = true then ⟨#[108, 111, 99, 97, 108]⟩
  else if (i == 12) = true then ⟨#[110, 117, 108, 108]⟩
  else if (i == 13) = true then ⟨#[115, 101, 108, 102]⟩
  else if (i == 14) = true then ⟨#[115, 117, 112, 101, 114]⟩
  else if (i == 15) = true then ⟨#[116, 97, 105, 108, 115, 116, 114, 105, 99, 116]⟩
  else if (i == 16) = true then ⟨#[116, 104, 101, 110]⟩
  else if (i == 17) = true then ⟨#[116, 114, 117, 101]⟩
  else ⟨#[]⟩
set_option maxHeartbeats 400000 in
theorem spell_any (i : Int) (w : World) : Calls Try.prog 13 #[.int .i64 i] w fun e w' => e = .returned (.string (spellB i)) ∧ w = w' := by
  go_enter Try.func13, Try.ntmps13
  go_wp2
  all_goals
    go_ret
    exact ⟨ret_str (by simp only [spellB, *]; rfl), rfl⟩

theorem cw_step {a : ByteArray} {k : Nat} (h : k < a.size) : a.data.toList.drop k = a[k] :: a.data.toList.drop (k + 1) := by
  rw [List.drop_eq_getElem_cons (by simpa using h)]; rfl
theorem drop_all {a : ByteArray} {k : Nat} (h : a.size ≤ k) : a.data.toList.drop k = [] := List.drop_of_length_le (by rw [Array.length_toList]; exact h)
theorem byte_ne {x y : UInt8} (h : ((x.toNat : Int) != (y.toNat : Int)) = true) : x ≠ y := by
  rintro rfl; simp at h
theorem byte_same {x y : UInt8} (h : ((x.toNat : Int) != (y.toNat : Int)) = false) : x = y := by
  simp at h
  exact UInt8.toNat_inj.mp (by omega)
theorem wsb_not {x : UInt8} (h : ((x.toNat : Int) != 32) = true) (h' : ((x.toNat : Int) != 9) = true) : wsb x = false := by
  simp at h h'
  exact decide_eq_false (by omega)
theorem wsb_32 {x : UInt8} (h : ((x.toNat : Int) != 32) = false) : wsb x = true := by
  simp at h
  exact decide_eq_true (by omega)
theorem wsb_9 {x : UInt8} (h : ((x.toNat : Int) != 9) = false) : wsb x = true := by
  simp at h
  exact decide_eq_true (by omega)
/-- The four ways of a round. -/
theorem way_stop {a b : ByteArray} {k : Nat} (h : k < a.size) (hw : wsb a[k] = false) : cwL (a.data.toList.drop k) (b.data.toList.drop k) k = k := by
  rw [cw_step h, cwL_stop _ _ _ _ hw]
theorem way_short {a b : ByteArray} {k : Nat} (h : k < a.size) (hw : wsb a[k] = true) (hb : b.size ≤ k) : cwL (a.data.toList.drop k) (b.data.toList.drop k) k = 0 := by
  rw [cw_step h, drop_all hb, cwL_short _ _ _ hw]
theorem way_part {a b : ByteArray} {k : Nat} (h : k < a.size) (hw : wsb a[k] = true) (hb : k < b.size) (hne : a[k] ≠ b[k]) : cwL (a.data.toList.drop k) (b.data.toList.drop k) k = 0 := by
  rw [cw_step h, cw_step hb, cwL_part _ _ _ _ _ hw hne]
theorem way_same {a b : ByteArray} {k : Nat} (h : k < a.size) (hw : wsb a[k] = true) (hb : k < b.size) (he : a[k] = b[k]) : cwL (a.data.toList.drop k) (b.data.toList.drop k) k = cwL (a.data.toList.drop (k + 1)) (b.data.toList.drop (k + 1)) (k + 1) := by
  rw [cw_step h, cw_step hb, he, cwL_same _ _ _ _ (by rw [← he]; exact hw)]
/-- checkWhitespace. -/
theorem check_any (a b : ByteArray) (w : World) (ha : a.size ≤ 1048576) :
    Calls Try.prog 23 #[.string a, .string b] w fun e w' => e = .returned (.int .i64 (cwL a.data.toList b.data.toList 0)) ∧ ∃ n, w' = w.drewN n := by
  go_enter Try.func23, Try.ntmps23
  go_wp2
  go_loopw [5] (fun i w' => ∃ k n : Nat, k ≤ a.size ∧ i = .int .i64 k ∧ w' = w.drewN n ∧ Hid (cwL a.data.toList b.data.toList 0 = cwL (a.data.toList.drop k) (b.data.toList.drop k) k)) (fun i _ => a.size - (intOf i).toNat)
  case atStart => exact ⟨0, 0, Nat.zero_le _, rfl, rfl, rfl⟩
  case round =>
    obtain ⟨k, n, hk, rfl, rfl, hr⟩ := hrel
    by_cases hlt : k < a.size
    · have hax : (a[k].toNat : Int) ≤ 255 := by have := a[k].toNat_lt; omega
      by_cases hs : ((a[k].toNat : Int) != 32) = true
      · by_cases ht : ((a[k].toNat : Int) != 9) = true
        · go_wp2
          go_ret
          exact ⟨ret_int (by rw [hr.out, way_stop hlt (wsb_not hs ht)]), _, rfl⟩
        · have ht : ((a[k].toNat : Int) != 9) = false := by simpa using ht
          by_cases hbl : k < b.size
          · by_cases hne : ((a[k].toNat : Int) != (b[k].toNat : Int)) = true
            · go_wp2
              go_quiet (fail)
              go_wp2
              go_ret
              exact ⟨ret_int (by rw [hr.out, way_part hlt (wsb_9 ht) hbl (byte_ne hne)]; rfl), _, World.drewN_drewN _ _ _⟩
            · have hne : ((a[k].toNat : Int) != (b[k].toNat : Int)) = false := by simpa using hne
              go_wp2
              go_quiet (fail)
              go_wp2
              go_roundw
              case rel => exact ⟨k + 1, _, by omega, by go_num, rfl, hr.out.trans (way_same hlt (wsb_9 ht) hbl (byte_same hne))⟩
              case measure => simp [intOf]; omega
          · go_wp2
            go_ret
            exact ⟨ret_int (by rw [hr.out, way_short hlt (wsb_9 ht) (by omega)]; rfl), _, rfl⟩
      · have hs : ((a[k].toNat : Int) != 32) = false := by simpa using hs
        by_cases hbl : k < b.size
        · by_cases hne : ((a[k].toNat : Int) != (b[k].toNat : Int)) = true
          · go_wp2
            go_quiet (fail)
            go_wp2
            go_ret
            exact ⟨ret_int (by rw [hr.out, way_part hlt (wsb_32 hs) hbl (byte_ne hne)]; rfl), _, World.drewN_drewN _ _ _⟩
          · have hne : ((a[k].toNat : Int) != (b[k].toNat : Int)) = false := by simpa using hne
            go_wp2
            go_quiet (fail)
            go_wp2
            go_roundw
            case rel => exact ⟨k + 1, _, by omega, by go_num, rfl, hr.out.trans (way_same hlt (wsb_32 hs) hbl (byte_same hne))⟩
            case measure => simp [intOf]; omega
        · go_wp2
          go_ret
          exact ⟨ret_int (by rw [hr.out, way_short hlt (wsb_32 hs) (by omega)]; rfl), _, rfl⟩
    · go_wp2
      go_ret
      exact ⟨ret_int (by rw [hr.out, drop_all (a := a) (by omega), cwL_nil]), _, rfl⟩
end Go.Proofs.Ytkbbkfggkacplaa
