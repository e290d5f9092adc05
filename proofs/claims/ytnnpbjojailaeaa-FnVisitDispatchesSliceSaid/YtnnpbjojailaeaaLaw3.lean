/- FnVisitDispatchesSlice, walked. -/
import Derived.Test.YtnnpbjojailaeaaNSlice
import Derived.Handy
namespace Go.Proofs.Ytnnpbjojailaeaa
open Go.RowKit
def SliceMade (a0 a1 a2 : Bool) (w w' : World) : Prop := (∃ cu v2 v4 v6, w'.heap[w.heap.size]? = some (.cells cu 71 (0, 0)) ∧ cu[8]? = some (.slice none 0 0) ∧ cu[2]? = some v2 ∧ cu[4]? = some v4 ∧ cu[6]? = some v6 ∧ IsNode v2 a0 ∧ IsNode v4 a1 ∧ IsNode v6 a2) ∧ Below w.heap.size w w' ∧ w.heap.size < w'.heap.size
set_option maxRecDepth 100000 in
set_option maxHeartbeats 8000000 in
theorem node7 (a0 a1 a2 : Bool) (w : World) : Calls Try.prog 7 #[.bool a0, .bool a1, .bool a2] w fun e w' => e = .returned (.pointer (some ⟨w.heap.size, 0, none⟩)) ∧ SliceMade a0 a1 a2 w w' := by
  cases a0 <;> cases a1 <;> cases a2
  all_goals
    go_enter Try.func7, Try.ntmps7
    go_wp2_with (first | (go_at_call 13; refine (leaf_any _).mono ?_; rintro e w' ⟨o, rfl, rfl⟩))
    go_ret
    exact ⟨rfl, ⟨_, _, _, _, by repeat (first | exact at_new (by simp) | refine at_old ?_), rfl, rfl, rfl, rfl, by simp [IsNode], by simp [IsNode], by simp [IsNode]⟩, by repeat (first | exact Below.refl _ _ | refine below_al ?_ _), by simp <;> omega⟩
set_option maxRecDepth 100000 in
set_option maxHeartbeats 8000000 in
theorem law3 (a0 a1 a2 : Bool) (w : World) : Calls Try.prog 3 #[.bool a0, .bool a1, .bool a2] w fun e w' => e = .returned (.bool true) ∧ Below w.heap.size w w' := by
  go_enter Try.func3, Try.ntmps3
  go_wp2_with fail
  refine (node7 a0 a1 a2 w).mono ?_
  rintro e w0 ⟨rfl, hm, hb0, hz0⟩
  have B0 := Lib.hid hb0
  obtain ⟨cu, v2, v4, v6, hU, hF, h2, h4, h6, j2, j4, j6⟩ := hm
  have KU0 := Lib.hid hU
  have KF := Lib.hid hF
  have K2 := Lib.hid h2
  have K4 := Lib.hid h4
  have K6 := Lib.hid h6
  have I2 := Lib.hid j2
  have I4 := Lib.hid j4
  have I6 := Lib.hid j6
  clear hU hF h2 h4 h6 j2 j4 j6
  have p1 := part_new w0
  clear hb0
  go_wp2_with fail
  generalize hW : World.alloc _ _ = W1
  have KU := Lib.hid (show W1.heap[w.heap.size]? = some (.cells cu 71 (0, 0)) by rw [← hW]; exact at_old KU0.out)
  have KB := Lib.hid (show W1.heap[w0.heap.size]? = some (.cells #[.slice none 0 0] 29 (0, 0)) by rw [← hW]; (repeat (first | exact at_new (by simp) | refine at_old ?_)))
  have BW := Lib.hid (show Below w.heap.size w W1 by rw [← hW]; exact below_al B0.out _)
  clear p1 hW KU0 B0
  refine (slice_any (recE_of KB.out) (by simp) _ _ _ _ KU.out a0 a1 a2 v2 v4 v6 K2.out K4.out K6.out I2.out I4.out I6.out (by omega)).mono ?_
  rintro e w1 ⟨rfl, hr1, hk1⟩
  have KU1 := Lib.hid (hk1.2 _ _ _ _ KU.out (by omega) (by decide))
  have R1 := Lib.hid hr1
  have BW1 := Lib.hid (hr1.below BW.out (by omega))
  have hz : w0.heap.size < w1.heap.size := Nat.lt_of_lt_of_le (RecSt.lt hr1) (RecSt.size hr1)
  clear hr1 hk1 KU KB BW
  have p2 := part_new2 w1
  go_wp2_with fail
  refine (v9_Slice a0 a1 a2 v2 v4 v6 K2.out K4.out K6.out I2.out I4.out I6.out R1.out KU1.out _ _ _ KF.out).mono ?_
  rintro e w2 ⟨rfl, ht, hb2⟩
  have BW2 := Lib.hid (BW1.out.trans (hb2.mono (by omega)))
  clear p2 hb2 R1 KU1 KF BW1
  obtain ⟨g1, c1, g2, c2, f, E, i1, i2, k1, k2, k3, k4, e1, e2⟩ := ht
  have E1 := Lib.hid e1
  have E2 := Lib.hid e2
  clear e1 e2
  clear K2 K4 K6 I2 I4 I6
  generalize hL : (evSl0 w.heap.size a0 a1 a2).length = L at *
  have l1 : 1 ≤ L := by rw [← hL]; simp [evSl0]
  have l2 : L ≤ 8 := by rw [← hL]; simp [evSl0]; cases a0 <;> cases a1 <;> cases a2 <;> simp
  clear hL
  go_wp2_with fail
  go_quiet (fail)
  go_wp2_with fail
  go_quiet ((go_at_call 10; exact quiet_add (same_any _ _ _ _ _ _ _ E _ (E2.out.drewN _) (E1.out.drewN _) (by omega))))
  go_wp2
  go_ret
  exact ⟨rfl, below_drewN (below_drewN BW2.out _) _⟩
end Go.Proofs.Ytnnpbjojailaeaa
