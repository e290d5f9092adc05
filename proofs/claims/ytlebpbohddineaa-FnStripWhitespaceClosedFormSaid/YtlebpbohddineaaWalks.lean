/- The contracts of the blank tests, of the mask, of the validator and of the two strippers. -/
import Derived.Test.YtlebpbohddineaaProg
import Derived.Test.YtlebpbohddineaaRunes
import Derived.WalkKit
import Derived.WalkLawsBesides
import Derived.WalkSpells
import Derived.Lib.Hide
import Derived.Lib.Strings
namespace Go.Proofs.Ytlebpbohddineaa
open Go.RowKit

theorem ret_bool {a b : Bool} (h : a = b) : Ending.returned (.bool a) = .returned (.bool b) := by rw [h]
theorem ret_true {p : Prop} [Decidable p] (h : p) : Ending.returned (.bool true) = .returned (.bool (decide p)) := by rw [decide_eq_true h]
theorem ret_false {p : Prop} [Decidable p] (h : ¬ p) : Ending.returned (.bool false) = .returned (.bool (decide p)) := by rw [decide_eq_false h]
theorem ret_str {a b : ByteArray} (h : a = b) : Ending.returned (.string a) = .returned (.string b) := by rw [h]

theorem hw_any (r : Int) (w : World) : Calls Try.prog 16 #[.int .i32 r] w fun e w' => e = .returned (.bool (hw r)) ∧ w = w' := by
  go_enter Try.func16, Try.ntmps16
  go_wp2
  all_goals
    go_ret
    refine ⟨ret_bool ?_, rfl⟩
    unfold hw
    rw [Bool.eq_iff_iff]
    simp_all
theorem zzHw_any (r : Int) (w : World) : Calls Try.prog 8 #[.int .i32 r] w fun e w' => e = .returned (.bool (hw r)) ∧ w = w' := by
  go_enter Try.func8, Try.ntmps8
  go_wp2_with (go_at_call 16; refine (hw_any _ _).mono ?_; rintro e w' ⟨rfl, rfl⟩)
  go_ret
  exact ⟨rfl, rfl⟩
theorem hwByte_any (c : UInt8) (w : World) : Calls Try.prog 20 #[.int .u8 (c.toNat : Int)] w fun e w' => e = .returned (.bool (hwb c)) ∧ w = w' := by
  go_enter Try.func20, Try.ntmps20
  go_wp2
  all_goals
    go_ret
    refine ⟨ret_bool ?_, rfl⟩
    unfold hwb hw
    rw [Bool.eq_iff_iff]
    simp_all
def wsR (r : Int) : Bool := (r == 10) || hw r
theorem ws_any (r : Int) (w : World) : Calls Try.prog 17 #[.int .i32 r] w fun e w' => e = .returned (.bool (wsR r)) ∧ w = w' := by
  by_cases h : r = 10
  · have hb : (r == 10) = true := by simp [h]
    have H := Lib.hid h
    clear h
    go_enter Try.func17, Try.ntmps17
    go_wp2
    go_ret
    exact ⟨ret_bool (by simp [wsR, H.out]), rfl⟩
  · have hb : (r == 10) = false := by simpa using h
    go_enter Try.func17, Try.ntmps17
    go_wp2_with (go_at_call 16; refine (hw_any _ _).mono ?_; rintro e w' ⟨rfl, rfl⟩)
    go_ret
    exact ⟨ret_bool (by simp [wsR, hb]), rfl⟩
theorem zzWs_any (r : Int) (w : World) : Calls Try.prog 10 #[.int .i32 r] w fun e w' => e = .returned (.bool (wsR r)) ∧ w = w' := by
  go_enter Try.func10, Try.ntmps10
  go_wp2_with (go_at_call 17; refine (ws_any _ _).mono ?_; rintro e w' ⟨rfl, rfl⟩)
  go_ret
  exact ⟨rfl, rfl⟩

def contB (c : Int) : Bool := decide (128 ≤ c ∧ c ≤ 191)
theorem cont_any (c : Int) (w : World) : Calls Try.prog 19 #[.int .u8 c] w fun e w' => e = .returned (.bool (contB c)) ∧ w = w' := by
  by_cases h1 : 128 ≤ c
  · by_cases h2 : c ≤ 191
    · go_enter Try.func19, Try.ntmps19
      go_wp2
      go_ret
      exact ⟨ret_true (by omega), rfl⟩
    · go_enter Try.func19, Try.ntmps19
      go_wp2
      go_ret
      exact ⟨ret_false (by omega), rfl⟩
  · go_enter Try.func19, Try.ntmps19
    go_wp2
    go_ret
    exact ⟨ret_false (by omega), rfl⟩
theorem bytes12_any (s : ByteArray) (m : Int) (w : World) : Calls Try.prog 12 #[.string s, .int .i64 m] w fun e w' => e = .returned (.bool (decide (s.size ≤ 1048576))) ∧ w = w' := by
  by_cases h : s.size ≤ 1048576
  · go_enter Try.func12, Try.ntmps12
    go_wp2
    go_ret
    exact ⟨ret_true h, rfl⟩
  · go_enter Try.func12, Try.ntmps12
    go_wp2
    go_ret
    exact ⟨ret_false (by omega), rfl⟩
theorem bytes15_any (s : ByteArray) (a b : Int) (w : World) : Calls Try.prog 15 #[.string s, .int .i64 a, .int .i64 b] w fun e w' => e = .returned (.bool (decide (s.size ≤ 1048576))) ∧ w = w' := by
  by_cases h : s.size ≤ 1048576
  · go_enter Try.func15, Try.ntmps15
    go_wp2
    go_ret
    exact ⟨ret_true h, rfl⟩
  · go_enter Try.func15, Try.ntmps15
    go_wp2
    go_ret
    exact ⟨ret_false (by omega), rfl⟩
def maskB (m r : Int) : Bool := decide (0 ≤ r ∧ r < 64) && (bits BinOp.and IntKind.u64 (IntKind.u64.wrap (2 ^ r.toNat)) m != 0)
theorem mask_any (m r : Int) (w : World) : Calls Try.prog 9 #[.int .u64 m, .int .i32 r] w fun e w' => e = .returned (.bool (maskB m r)) ∧ w = w' := by
  by_cases h0 : 0 ≤ r
  · by_cases h1 : r < 64
    · go_enter Try.func9, Try.ntmps9
      go_wp2
      go_ret
      exact ⟨ret_bool (by unfold maskB; rw [decide_eq_true (by omega), Bool.true_and]), rfl⟩
    · go_enter Try.func9, Try.ntmps9
      go_wp2
      go_ret
      exact ⟨ret_bool (by unfold maskB; rw [decide_eq_false (by omega), Bool.false_and]), rfl⟩
  · go_enter Try.func9, Try.ntmps9
    go_wp2
    go_ret
    exact ⟨ret_bool (by unfold maskB; rw [decide_eq_false (by omega), Bool.false_and]), rfl⟩
theorem mask_hw_all : ∀ n : Fin 64, (bits BinOp.and IntKind.u64 (IntKind.u64.wrap (2 ^ n.val)) 4294976000 != 0) = (decide (n.val = 32) || decide (n.val = 9) || decide (n.val = 13)) := by decide +kernel
theorem mask_ws_all : ∀ n : Fin 64, (bits BinOp.and IntKind.u64 (IntKind.u64.wrap (2 ^ n.val)) 4294977024 != 0) = (decide (n.val = 10) || decide (n.val = 32) || decide (n.val = 9) || decide (n.val = 13)) := by decide +kernel
theorem mask_hw (r : Int) : maskB 4294976000 r = hw r := by
  unfold maskB
  by_cases h : 0 ≤ r ∧ r < 64
  · have hm := mask_hw_all ⟨r.toNat, by omega⟩
    simp only at hm
    rw [decide_eq_true h, Bool.true_and, hm, Bool.eq_iff_iff]
    simp [hw]
    omega
  · rw [decide_eq_false h, Bool.false_and]
    exact (decide_eq_false (by omega)).symm
theorem mask_ws (r : Int) : maskB 4294977024 r = wsR r := by
  unfold maskB
  by_cases h : 0 ≤ r ∧ r < 64
  · have hm := mask_ws_all ⟨r.toNat, by omega⟩
    simp only at hm
    rw [decide_eq_true h, Bool.true_and, hm, Bool.eq_iff_iff]
    simp [hw, wsR]
    omega
  · rw [decide_eq_false h, Bool.false_and]
    have hh : hw r = false := decide_eq_false (by omega)
    unfold wsR
    rw [hh]
    simp
    omega
end Go.Proofs.Ytlebpbohddineaa
