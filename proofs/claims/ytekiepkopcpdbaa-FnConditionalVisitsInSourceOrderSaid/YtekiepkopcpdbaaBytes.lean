/- The bound functions: each answers some bool and turns nothing. -/
import Derived.Test.YtekiepkopcpdbaaBBase
namespace Go.Proofs.Ytekiepkopcpdbaa
open Go.RowKit
def SomeB (w : World) (e : Ending) (w' : World) : Prop := ∃ bb, e = .returned (.bool bb) ∧ w = w'
theorem bytes10_any (x0 : Value) (x1 : ByteArray) (w : World) : Calls Try.prog 10 #[x0, .string x1] w (SomeB w) := by
  by_cases h0 : x1.size ≤ 1048576
  rotate_left
  · go_enter Try.func10, Try.ntmps10
    go_wp2
    go_ret
    exact ⟨_, rfl, rfl⟩
  · go_enter Try.func10, Try.ntmps10
    go_wp2
    go_ret
    exact ⟨_, rfl, rfl⟩
theorem bytes16_any (x0 : Value) (x1 : ByteArray) (w : World) : Calls Try.prog 16 #[x0, .string x1] w (SomeB w) := by
  by_cases h0 : x1.size ≤ 1048576
  rotate_left
  · go_enter Try.func16, Try.ntmps16
    go_wp2
    go_ret
    exact ⟨_, rfl, rfl⟩
  · go_enter Try.func16, Try.ntmps16
    go_wp2
    go_ret
    exact ⟨_, rfl, rfl⟩
theorem bytes18_any (x0 : Value) (x1 : Value) (x2 : Value) (x3 : ByteArray) (w : World) : Calls Try.prog 18 #[x0, x1, x2, .string x3] w (SomeB w) := by
  by_cases h0 : x3.size ≤ 1048576
  rotate_left
  · go_enter Try.func18, Try.ntmps18
    go_wp2
    go_ret
    exact ⟨_, rfl, rfl⟩
  · go_enter Try.func18, Try.ntmps18
    go_wp2
    go_ret
    exact ⟨_, rfl, rfl⟩
theorem bytes20_any (x0 : ByteArray) (w : World) : Calls Try.prog 20 #[.string x0] w (SomeB w) := by
  by_cases h0 : x0.size ≤ 1048576
  rotate_left
  · go_enter Try.func20, Try.ntmps20
    go_wp2
    go_ret
    exact ⟨_, rfl, rfl⟩
  · go_enter Try.func20, Try.ntmps20
    go_wp2
    go_ret
    exact ⟨_, rfl, rfl⟩
theorem bytes22_any (x0 : ByteArray) (x1 : ByteArray) (x2 : Value) (x3 : Value) (x4 : Value) (x5 : Value) (w : World) : Calls Try.prog 22 #[.string x0, .string x1, x2, x3, x4, x5] w (SomeB w) := by
  by_cases h0 : x0.size ≤ 1048576
  rotate_left
  · go_enter Try.func22, Try.ntmps22
    go_wp2
    go_ret
    exact ⟨_, rfl, rfl⟩
  by_cases h1 : x1.size ≤ 1048576
  rotate_left
  · go_enter Try.func22, Try.ntmps22
    go_wp2
    go_ret
    exact ⟨_, rfl, rfl⟩
  by_cases k1 : x0.size + x1.size ≤ 1048576
  rotate_left
  · go_enter Try.func22, Try.ntmps22
    go_wp2
    go_ret
    exact ⟨_, rfl, rfl⟩
  · go_enter Try.func22, Try.ntmps22
    go_wp2
    go_ret
    exact ⟨_, rfl, rfl⟩
theorem bytes24_any (x0 : ByteArray) (x1 : ByteArray) (x2 : ByteArray) (x3 : Value) (x4 : Value) (x5 : Value) (x6 : Value) (w : World) : Calls Try.prog 24 #[.string x0, .string x1, .string x2, x3, x4, x5, x6] w (SomeB w) := by
  by_cases h0 : x0.size ≤ 1048576
  rotate_left
  · go_enter Try.func24, Try.ntmps24
    go_wp2
    go_ret
    exact ⟨_, rfl, rfl⟩
  by_cases h1 : x1.size ≤ 1048576
  rotate_left
  · go_enter Try.func24, Try.ntmps24
    go_wp2
    go_ret
    exact ⟨_, rfl, rfl⟩
  by_cases k1 : x0.size + x1.size ≤ 1048576
  rotate_left
  · go_enter Try.func24, Try.ntmps24
    go_wp2
    go_ret
    exact ⟨_, rfl, rfl⟩
  by_cases h2 : x2.size ≤ 1048576
  rotate_left
  · go_enter Try.func24, Try.ntmps24
    go_wp2
    go_ret
    exact ⟨_, rfl, rfl⟩
  by_cases k2 : x0.size + x1.size + x2.size ≤ 1048576
  rotate_left
  · go_enter Try.func24, Try.ntmps24
    go_wp2
    go_ret
    exact ⟨_, rfl, rfl⟩
  · go_enter Try.func24, Try.ntmps24
    go_wp2
    go_ret
    exact ⟨_, rfl, rfl⟩
theorem bytes25_any (x0 : ByteArray) (x1 : ByteArray) (x2 : ByteArray) (x3 : Value) (x4 : Value) (x5 : Value) (x6 : Value) (w : World) : Calls Try.prog 25 #[.string x0, .string x1, .string x2, x3, x4, x5, x6] w (SomeB w) := by
  by_cases h0 : x0.size ≤ 1048576
  rotate_left
  · go_enter Try.func25, Try.ntmps25
    go_wp2
    go_ret
    exact ⟨_, rfl, rfl⟩
  by_cases h1 : x1.size ≤ 1048576
  rotate_left
  · go_enter Try.func25, Try.ntmps25
    go_wp2
    go_ret
    exact ⟨_, rfl, rfl⟩
  by_cases k1 : x0.size + x1.size ≤ 1048576
  rotate_left
  · go_enter Try.func25, Try.ntmps25
    go_wp2
    go_ret
    exact ⟨_, rfl, rfl⟩
  by_cases h2 : x2.size ≤ 1048576
  rotate_left
  · go_enter Try.func25, Try.ntmps25
    go_wp2
    go_ret
    exact ⟨_, rfl, rfl⟩
  by_cases k2 : x0.size + x1.size + x2.size ≤ 1048576
  rotate_left
  · go_enter Try.func25, Try.ntmps25
    go_wp2
    go_ret
    exact ⟨_, rfl, rfl⟩
  · go_enter Try.func25, Try.ntmps25
    go_wp2
    go_ret
    exact ⟨_, rfl, rfl⟩
end Go.Proofs.Ytekiepkopcpdbaa
