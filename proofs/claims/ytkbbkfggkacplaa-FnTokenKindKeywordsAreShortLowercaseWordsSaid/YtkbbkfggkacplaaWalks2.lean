/- The contracts of the model's own functions, of the bounds on lengths, and of TighterPrecedence; plain facts on keywords. -/
import Derived.Test.YtkbbkfggkacplaaWalks
namespace Go.Proofs.Ytkbbkfggkacplaa
open Go.RowKit

theorem zzCheck_any (a b : ByteArray) (w : World) (ha : a.size ≤ 1048576) :
    Calls Try.prog 17 #[.string a, .string b] w fun e w' => e = .returned (.int .i64 (cwL a.data.toList b.data.toList 0)) ∧ ∃ n, w' = w.drewN n := by
  go_enter Try.func17, Try.ntmps17
  go_wp2_with (go_at_call 23; refine (check_any _ _ _ ha).mono ?_; rintro e w' ⟨rfl, n, rfl⟩)
  go_ret
  exact ⟨rfl, n, rfl⟩
theorem isWS_any (x : UInt8) (w : World) : Calls Try.prog 22 #[.int .u8 (x.toNat : Int)] w fun e w' => e = .returned (.bool (wsb x)) ∧ w = w' := by
  go_enter Try.func22, Try.ntmps22
  go_wp2
  all_goals
    go_ret
    refine ⟨ret_bool ?_, rfl⟩
    unfold wsb
    rw [Bool.eq_iff_iff]
    simp_all
    try omega
theorem wsLen_any (a : ByteArray) (w : World) (ha : a.size ≤ 1048576) : Calls Try.prog 15 #[.string a] w fun e w' => e = .returned (.int .i64 (wsLen a.data.toList)) ∧ w = w' := by
  go_enter Try.func15, Try.ntmps15
  go_wp2
  go_loop [3] (fun i => ∃ k : Nat, k ≤ a.size ∧ i = .int .i64 k ∧ Hid (∀ t, t < k → (h : t < a.data.toList.length) → wsb a.data.toList[t] = true)) (fun i => a.size - (intOf i).toNat)
  case atStart => exact ⟨0, Nat.zero_le _, rfl, fun t h => absurd h (by omega)⟩
  case round =>
    obtain ⟨k, hk, rfl, hr⟩ := hrel
    by_cases hlt : k < a.size
    · have hl : k < a.data.toList.length := by rw [Array.length_toList]; exact hlt
      by_cases hs : wsb a[k] = true
      · go_wp2_with (go_at_call 22; refine (isWS_any _ _).mono ?_; rintro e w' ⟨rfl, rfl⟩)
        go_round
        case rel => exact ⟨k + 1, by omega, by go_num, fun t ht h => by
          by_cases e : t = k
          · subst e; exact hs
          · exact hr t (by omega) h⟩
        case measure => simp [intOf]; omega
      · have hs : wsb a[k] = false := by simpa using hs
        go_wp2_with (go_at_call 22; refine (isWS_any _ _).mono ?_; rintro e w' ⟨rfl, rfl⟩)
        go_ret
        exact ⟨ret_int (by rw [wsLen_eq a.data.toList k (by omega) hr.out (.inr ⟨hl, hs⟩)]), rfl⟩
    · go_wp2
      go_ret
      exact ⟨ret_int (by rw [wsLen_eq a.data.toList k (by rw [Array.length_toList]; exact hk) hr.out (.inl (by rw [Array.length_toList]; show k = a.size; omega))]), rfl⟩
theorem getL (a : ByteArray) (k : Nat) (h : k < a.size) : a.data.toList[k]? = some a[k] := by
  rw [List.getElem?_eq_getElem (by rw [Array.length_toList]; exact h)]; rfl
theorem begins_any (b p : ByteArray) (w : World) (hb : b.size ≤ 1048576) : Calls Try.prog 16 #[.string b, .string p] w fun e w' => e = .returned (.bool (begins b.data.toList p.data.toList)) ∧ ∃ n, w' = w.drewN n := by
  have hlb : b.data.toList.length = b.size := Array.length_toList
  have hlp : p.data.toList.length = p.size := Array.length_toList
  have HB := Lib.hid hlb
  have HP := Lib.hid hlp
  clear hlb hlp
  by_cases hs : b.size < p.size
  · go_enter Try.func16, Try.ntmps16
    go_wp2
    go_ret
    exact ⟨ret_bool (begins_short _ _ (by rw [HB.out, HP.out]; exact hs)).symm, 0, rfl⟩
  · go_enter Try.func16, Try.ntmps16
    go_wp2
    go_loopw [5] (fun i w' => ∃ k n : Nat, k ≤ p.size ∧ i = .int .i64 k ∧ w' = w.drewN n ∧ Hid (∀ t, t < k → p.data.toList[t]? = b.data.toList[t]?)) (fun i _ => p.size - (intOf i).toNat)
    case atStart => exact ⟨0, 0, Nat.zero_le _, rfl, rfl, fun t h => absurd h (by omega)⟩
    case round =>
      obtain ⟨k, n, hk, rfl, rfl, hr⟩ := hrel
      by_cases hlt : k < p.size
      · have hkb : k < b.size := by omega
        by_cases hne : ((b[k].toNat : Int) != (p[k].toNat : Int)) = true
        · go_wp2
          go_quiet (fail)
          go_wp2
          go_ret
          exact ⟨ret_bool (begins_parts _ _ k (by rw [HP.out]; exact hlt) (by rw [getL p k hlt, getL b k hkb]; exact fun e => byte_ne hne (Option.some.inj e).symm)).symm, _, World.drewN_drewN _ _ _⟩
        · have hne : ((b[k].toNat : Int) != (p[k].toNat : Int)) = false := by simpa using hne
          go_wp2
          go_quiet (fail)
          go_wp2
          go_roundw
          case rel => exact ⟨k + 1, _, by omega, by go_num, rfl, fun t ht => by
            by_cases e : t = k
            · subst e; rw [getL p t hlt, getL b t hkb, byte_same hne]
            · exact hr t (by omega)⟩
          case measure => simp [intOf]; omega
      · go_wp2
        go_ret
        exact ⟨ret_bool (begins_true _ _ (by rw [HB.out, HP.out]; omega) (fun t ht => hr t (by rw [HP.out] at ht; omega))).symm, _, rfl⟩

theorem bytes11_any (s : ByteArray) (w : World) : Calls Try.prog 11 #[.string s] w fun e w' => e = .returned (.bool (decide (s.size ≤ 1048576))) ∧ w = w' := by
  by_cases h : s.size ≤ 1048576
  · go_enter Try.func11, Try.ntmps11
    go_wp2
    go_ret
    exact ⟨ret_true h, rfl⟩
  · go_enter Try.func11, Try.ntmps11
    go_wp2
    go_ret
    exact ⟨ret_false (by omega), rfl⟩
theorem bytes20_any (s : ByteArray) (w : World) : Calls Try.prog 20 #[.string s] w fun e w' => e = .returned (.bool (decide (s.size ≤ 1048576))) ∧ w = w' := by
  by_cases h : s.size ≤ 1048576
  · go_enter Try.func20, Try.ntmps20
    go_wp2
    go_ret
    exact ⟨ret_true h, rfl⟩
  · go_enter Try.func20, Try.ntmps20
    go_wp2
    go_ret
    exact ⟨ret_false (by omega), rfl⟩
def SomeB (w : World) (e : Ending) (w' : World) : Prop := ∃ b : Bool, e = .returned (.bool b) ∧ w = w'
theorem bytes14_any (a b : ByteArray) (w : World) : Calls Try.prog 14 #[.string a, .string b] w (SomeB w) := by
  by_cases h : a.size ≤ 1048576
  · by_cases h2 : b.size ≤ 1048576
    · by_cases h3 : a.size + b.size ≤ 1048576
      · go_enter Try.func14, Try.ntmps14
        go_wp2
        go_ret
        exact ⟨_, rfl, rfl⟩
      · go_enter Try.func14, Try.ntmps14
        go_wp2
        go_ret
        exact ⟨_, rfl, rfl⟩
    · go_enter Try.func14, Try.ntmps14
      go_wp2
      go_ret
      exact ⟨_, rfl, rfl⟩
  · go_enter Try.func14, Try.ntmps14
    go_wp2
    go_ret
    exact ⟨_, rfl, rfl⟩
theorem bytes18_any (a b c : ByteArray) (w : World) : Calls Try.prog 18 #[.string a, .string b, .string c] w (SomeB w) := by
  by_cases h : a.size ≤ 1048576
  · by_cases h2 : b.size ≤ 1048576
    · by_cases h3 : a.size + b.size ≤ 1048576
      · by_cases h4 : c.size ≤ 1048576
        · by_cases h5 : a.size + b.size + c.size ≤ 1048576
          · go_enter Try.func18, Try.ntmps18
            go_wp2
            go_ret
            exact ⟨_, rfl, rfl⟩
          · go_enter Try.func18, Try.ntmps18
            go_wp2
            go_ret
            exact ⟨_, rfl, rfl⟩
        · go_enter Try.func18, Try.ntmps18
          go_wp2
          go_ret
          exact ⟨_, rfl, rfl⟩
      · go_enter Try.func18, Try.ntmps18
        go_wp2
        go_ret
        exact ⟨_, rfl, rfl⟩
    · go_enter Try.func18, Try.ntmps18
      go_wp2
      go_ret
      exact ⟨_, rfl, rfl⟩
  · go_enter Try.func18, Try.ntmps18
    go_wp2
    go_ret
    exact ⟨_, rfl, rfl⟩
theorem bytes19_any (a b c : ByteArray) (w : World) : Calls Try.prog 19 #[.string a, .string b, .string c] w (SomeB w) := by
  by_cases h : a.size ≤ 1048576
  · by_cases h2 : b.size ≤ 1048576
    · by_cases h3 : a.size + b.size ≤ 1048576
      · by_cases h4 : c.size ≤ 1048576
        · by_cases h5 : a.size + b.size + c.size ≤ 1048576
          · go_enter Try.func19, Try.ntmps19
            go_wp2
            go_ret
            exact ⟨_, rfl, rfl⟩
          · go_enter Try.func19, Try.ntmps19
            go_wp2
            go_ret
            exact ⟨_, rfl, rfl⟩
        · go_enter Try.func19, Try.ntmps19
          go_wp2
          go_ret
          exact ⟨_, rfl, rfl⟩
      · go_enter Try.func19, Try.ntmps19
        go_wp2
        go_ret
        exact ⟨_, rfl, rfl⟩
    · go_enter Try.func19, Try.ntmps19
      go_wp2
      go_ret
      exact ⟨_, rfl, rfl⟩
  · go_enter Try.func19, Try.ntmps19
    go_wp2
    go_ret
    exact ⟨_, rfl, rfl⟩
theorem tight_one (w : World) : Calls Try.prog 10 #[.int .i64 1] w fun e w' => e = .returned (.int .i64 1) ∧ w = w' := by
  go_enter Try.func10, Try.ntmps10
  go_wp2
  go_ret
  exact ⟨rfl, rfl⟩
theorem tight_more (p : Int) (w : World) (h : 2 ≤ p) (h' : p ≤ 9223372036854775807) : Calls Try.prog 10 #[.int .i64 p] w fun e w' => e = .returned (.int .i64 (p - 1)) ∧ w = w' := by
  go_enter Try.func10, Try.ntmps10
  go_wp2
  go_ret
  exact ⟨rfl, rfl⟩

theorem below_drewN {B : Nat} {a w : World} (h : Below B a w) (n : Nat) : Below B a (w.drewN n) := ⟨h.os, h.tape, h.output, h.size, h.block⟩

/-! ### Keywords, plainly -/
theorem kind_range (l : List UInt8) (h : kindL l ≠ 10) : 18 ≤ kindL l ∧ kindL l ≤ 35 := by
  unfold kindL at h ⊢
  repeat' split
  all_goals first | omega | (exfalso; simp_all)
end Go.Proofs.Ytkbbkfggkacplaa
