/- zzSame: two lists of events that read alike. -/
import Derived.Test.YtnnpbjojailaeaaRec
import Derived.Deep.QuietTactic
import Derived.BigQuiet
import Derived.IntWalk
import Derived.Lib.Builder
namespace Go.Proofs.Ytnnpbjojailaeaa
open Go.RowKit
theorem some32 : (Try.prog.info? 32).isSome = true := by kernel_rfl
theorem nen34 (w : World) : (binOp .neq 34 (.pointer none) (.pointer none)).run Try.prog w = .ok (.bool false) w := by kernel_rfl
theorem neq34 (p : Option Addr) (w : World) : (binOp .neq 34 (.pointer p) (.pointer p)).run Try.prog w = .ok (.bool false) w := by
  obtain ⟨j, hj⟩ := Option.isSome_iff_exists.mp some32
  cases p with
  | none => exact nen34 w
  | some p => exact Lib.run_neq_ptr_same w p Try.underlying34 hj
theorem some46 : (Try.prog.info? 46).isSome = true := by kernel_rfl
theorem nen35 (w : World) : (binOp .neq 35 (.pointer none) (.pointer none)).run Try.prog w = .ok (.bool false) w := by kernel_rfl
theorem neq35 (p : Option Addr) (w : World) : (binOp .neq 35 (.pointer p) (.pointer p)).run Try.prog w = .ok (.bool false) w := by
  obtain ⟨j, hj⟩ := Option.isSome_iff_exists.mp some46
  cases p with
  | none => exact nen35 w
  | some p => exact Lib.run_neq_ptr_same w p Try.underlying35 hj
/-- n events at the address, as E says. -/
def EvAt (w : World) (g o n : Nat) (E : Nat → Bool × Option Addr × Option Addr) : Prop :=
  ∀ k, k < n → w.cell? ⟨g, o + k * 3, none⟩ = some (.bool (E k).1) ∧ w.cell? ⟨g, o + k * 3 + 1, none⟩ = some (.pointer (E k).2.1) ∧ w.cell? ⟨g, o + k * 3 + 2, none⟩ = some (.pointer (E k).2.2)
set_option maxRecDepth 100000 in
set_option maxHeartbeats 2000000 in
theorem same_any (ga oa gb ob n ca cb : Nat) (E : Nat → Bool × Option Addr × Option Addr) (w : World) (hA : EvAt w ga oa n E) (hB : EvAt w gb ob n E) (hn : n ≤ 100) :
    Calls Try.prog 10 #[.slice (some ⟨ga, oa, none⟩) n ca, .slice (some ⟨gb, ob, none⟩) n cb] w fun e w' => e = .returned (.bool true) ∧ ∃ m, w' = w.drewN m := by
  have HA := Lib.hid hA
  have HB := Lib.hid hB
  clear hA hB
  go_enter Try.func10, Try.ntmps10
  go_wp2
  go_loopw [5] (fun i wr => ∃ (k m : Nat), k ≤ n ∧ i = .int .i64 k ∧ wr = w.drewN m) (fun i _ => n - (intOf i).toNat)
  case atStart => exact ⟨0, 0, Nat.zero_le _, rfl, rfl⟩
  case round =>
    obtain ⟨k, m, hk, rfl, rfl⟩ := hrel
    by_cases hlt : k < n
    · obtain ⟨a1, a2, a3⟩ := HA.out k hlt
      obtain ⟨b1, b2, b3⟩ := HB.out k hlt
      generalize E k = ek at a1 a2 a3 b1 b2 b3
      obtain ⟨x, p, q⟩ := ek
      have n1 := neq34 p
      have n2 := neq35 q
      go_wp2_with fail
      go_quiet (fail)
      go_wp2
      go_roundw
      case rel => exact ⟨k + 1, _, by omega, by go_num, rfl⟩
      case measure => first | (simp [intOf]; done) | (simp [intOf]; omega)
    · have : k = n := by omega
      subst this
      go_wp2
      go_ret
      exact ⟨rfl, m, rfl⟩
end Go.Proofs.Ytnnpbjojailaeaa
