/- The bounds on lengths in these laws. -/
import Derived.Test.YtjihpmhcalpljaaBlk
namespace Go.Proofs.Ytjihpmhcalpljaa
open Go.RowKit
theorem blk_alloc {w w1 : World} {x : Obj} {cs : Array Value} (h : Blk w1 (w.alloc x).heap.size cs) : Blk w1 (w.heap.size + 1) cs := by simpa using h
theorem AtR.alloc {w : World} {k o : Nat} {fn : ByteArray} {a b c d : Int} (h : AtR w k o fn a b c d) (x : Obj) : AtR (w.alloc x) k o fn a b c d := h.keep below_1
theorem bytes13_any (s : ByteArray) (x1 : Int) (x2 : Int) (x3 : Int) (x4 : Int) (t : ByteArray) (x6 : Int) (x7 : Int) (x8 : Int) (x9 : Int) (x10 : Int) (x11 : Int) (w : World) : Calls Try.prog 13 #[.string s, .int .i64 x1, .int .i64 x2, .int .i64 x3, .int .i64 x4, .string t, .int .i64 x6, .int .i64 x7, .int .i64 x8, .int .i64 x9, .int .i64 x10, .int .i64 x11] w (SomeB w) := by
  by_cases h : s.size ≤ 1048576
  · by_cases h2 : t.size ≤ 1048576
    · by_cases h3 : s.size + t.size ≤ 1048576
      · go_enter Try.func13, Try.ntmps13
        go_wp2
        go_ret
        exact ⟨_, rfl, rfl⟩
      · go_enter Try.func13, Try.ntmps13
        go_wp2
        go_ret
        exact ⟨_, rfl, rfl⟩
    · go_enter Try.func13, Try.ntmps13
      go_wp2
      go_ret
      exact ⟨_, rfl, rfl⟩
  · go_enter Try.func13, Try.ntmps13
    go_wp2
    go_ret
    exact ⟨_, rfl, rfl⟩
theorem bytes7_any (s : ByteArray) (x1 : Int) (x2 : Int) (x3 : Int) (x4 : Int) (t : ByteArray) (x6 : Int) (x7 : Int) (x8 : Int) (x9 : Int) (w : World) : Calls Try.prog 7 #[.string s, .int .i64 x1, .int .i64 x2, .int .i64 x3, .int .i64 x4, .string t, .int .i64 x6, .int .i64 x7, .int .i64 x8, .int .i64 x9] w (SomeB w) := by
  by_cases h : s.size ≤ 1048576
  · by_cases h2 : t.size ≤ 1048576
    · by_cases h3 : s.size + t.size ≤ 1048576
      · go_enter Try.func7, Try.ntmps7
        go_wp2
        go_ret
        exact ⟨_, rfl, rfl⟩
      · go_enter Try.func7, Try.ntmps7
        go_wp2
        go_ret
        exact ⟨_, rfl, rfl⟩
    · go_enter Try.func7, Try.ntmps7
      go_wp2
      go_ret
      exact ⟨_, rfl, rfl⟩
  · go_enter Try.func7, Try.ntmps7
    go_wp2
    go_ret
    exact ⟨_, rfl, rfl⟩
theorem bytes20_any (s : ByteArray) (t : ByteArray) (x2 : Int) (x3 : Int) (x4 : Int) (x5 : Int) (bb : Bool) (w : World) : Calls Try.prog 20 #[.string s, .string t, .int .i64 x2, .int .i64 x3, .int .i64 x4, .int .i64 x5, .bool bb] w (SomeB w) := by
  by_cases h : s.size ≤ 1048576
  · by_cases h2 : t.size ≤ 1048576
    · by_cases h3 : s.size + t.size ≤ 1048576
      · go_enter Try.func20, Try.ntmps20
        go_wp2
        go_ret
        exact ⟨_, rfl, rfl⟩
      · go_enter Try.func20, Try.ntmps20
        go_wp2
        go_ret
        exact ⟨_, rfl, rfl⟩
    · go_enter Try.func20, Try.ntmps20
      go_wp2
      go_ret
      exact ⟨_, rfl, rfl⟩
  · go_enter Try.func20, Try.ntmps20
    go_wp2
    go_ret
    exact ⟨_, rfl, rfl⟩
end Go.Proofs.Ytjihpmhcalpljaa
