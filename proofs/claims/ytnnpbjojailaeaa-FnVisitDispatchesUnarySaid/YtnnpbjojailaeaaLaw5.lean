/- FnVisitDispatchesUnary, walked. -/
import Derived.Test.YtnnpbjojailaeaaNUnary
import Derived.Handy
namespace Go.Proofs.Ytnnpbjojailaeaa
open Go.RowKit
set_option maxRecDepth 100000 in
set_option maxHeartbeats 8000000 in
theorem law5f (w : World) : Calls Try.prog 5 #[.bool false] w fun e w' => e = .returned (.bool true) ∧ Below w.heap.size w w' := by
  have p1 := part_new1 w
  go_enter Try.func5, Try.ntmps5
  go_wp2_with fail
  generalize hW : World.alloc _ _ = W1
  have KUF : Hid (∃ cu, W1.heap[w.heap.size]? = some (.cells cu 60 (0, 0)) ∧ cu[1]? = some (.slice none 0 0)) := ⟨_, by rw [← hW]; (repeat (first | exact at_new (by simp) | refine at_old ?_)), rfl⟩
  have KB := Lib.hid (show W1.heap[w.heap.size + 1]? = some (.cells #[.slice none 0 0] 29 (0, 0)) by rw [← hW]; (repeat (first | exact at_new (by simp) | refine at_old ?_)))
  have BW := Lib.hid (show Below w.heap.size w W1 by rw [← hW]; (repeat (first | exact Below.refl _ _ | refine below_al ?_ _)))
  clear p1 hW
  obtain ⟨cu, hU, hF⟩ := KUF.out
  have KU := Lib.hid hU
  have KF := Lib.hid hF
  clear hU hF KUF
  refine (unary_E (recE_of KB.out) (by simp) _ _ _).mono ?_
  rintro e w1 ⟨rfl, hr1, hk1⟩
  have KU1 := Lib.hid (hk1.2 _ _ _ _ KU.out (by omega) (by decide))
  have R1 := Lib.hid hr1
  have BW1 := Lib.hid (hr1.below BW.out (by omega))
  have hz : w.heap.size + 1 < w1.heap.size := Nat.lt_of_lt_of_le (RecSt.lt hr1) (RecSt.size hr1)
  clear hr1 hk1 KU KB BW
  have p2 := part_new2 w1
  go_wp2_with fail
  refine (v9_Unary R1.out KU1.out _ _ _ KF.out).mono ?_
  rintro e w2 ⟨rfl, ht, hb2⟩
  have BW2 := Lib.hid (BW1.out.trans (hb2.mono (by omega)))
  clear p2 hb2 R1 KU1 KF BW1
  obtain ⟨g1, c1, g2, c2, f, E, i1, i2, k1, k2, k3, k4, e1, e2⟩ := ht
  have E1 := Lib.hid e1
  have E2 := Lib.hid e2
  clear e1 e2
  simp only [List.length_cons, List.length_nil, Nat.zero_add, Nat.reduceAdd] at i1 i2 k1 k2 E1 E2
  go_wp2_with fail
  go_quiet (fail)
  go_wp2_with fail
  go_quiet ((go_at_call 10; exact quiet_add (same_any _ _ _ _ _ _ _ E _ (E2.out.drewN _) (E1.out.drewN _) (by omega))))
  go_wp2
  go_ret
  exact ⟨rfl, below_drewN (below_drewN BW2.out _) _⟩
set_option maxRecDepth 100000 in
set_option maxHeartbeats 8000000 in
theorem law5t (w : World) : Calls Try.prog 5 #[.bool true] w fun e w' => e = .returned (.bool true) ∧ Below w.heap.size w w' := by
  have p1 := part_new3 w
  go_enter Try.func5, Try.ntmps5
  go_wp2_with (go_at_call 13; refine (leaf_any _).mono ?_; rintro e w' ⟨o, rfl, rfl⟩)
  generalize hW : World.alloc _ _ = W1
  have KUF : Hid (∃ cu, W1.heap[w.heap.size]? = some (.cells cu 60 (0, 0)) ∧ cu[1]? = some (.slice none 0 0)) := ⟨_, by rw [← hW]; (repeat (first | exact at_new (by simp) | refine at_old ?_)), rfl⟩
  have KB := Lib.hid (show W1.heap[w.heap.size + 1 + 1]? = some (.cells #[.slice none 0 0] 29 (0, 0)) by rw [← hW]; (repeat (first | exact at_new (by simp) | refine at_old ?_)))
  have BW := Lib.hid (show Below w.heap.size w W1 by rw [← hW]; (repeat (first | exact Below.refl _ _ | refine below_al ?_ _)))
  clear p1 hW
  obtain ⟨cu, hU, hF⟩ := KUF.out
  have KU := Lib.hid hU
  have KF := Lib.hid hF
  clear hU hF KUF
  refine (unary_E (recE_of KB.out) (by simp) _ _ _).mono ?_
  rintro e w1 ⟨rfl, hr1, hk1⟩
  have KU1 := Lib.hid (hk1.2 _ _ _ _ KU.out (by omega) (by decide))
  have R1 := Lib.hid hr1
  have BW1 := Lib.hid (hr1.below BW.out (by omega))
  have hz : w.heap.size + 1 + 1 < w1.heap.size := Nat.lt_of_lt_of_le (RecSt.lt hr1) (RecSt.size hr1)
  clear hr1 hk1 KU KB BW
  have p2 := part_new2 w1
  go_wp2_with fail
  refine (v9_Unary R1.out KU1.out _ _ _ KF.out).mono ?_
  rintro e w2 ⟨rfl, ht, hb2⟩
  have BW2 := Lib.hid (BW1.out.trans (hb2.mono (by omega)))
  clear p2 hb2 R1 KU1 KF BW1
  obtain ⟨g1, c1, g2, c2, f, E, i1, i2, k1, k2, k3, k4, e1, e2⟩ := ht
  have E1 := Lib.hid e1
  have E2 := Lib.hid e2
  clear e1 e2
  simp only [List.length_cons, List.length_nil, Nat.zero_add, Nat.reduceAdd] at i1 i2 k1 k2 E1 E2
  go_wp2_with fail
  go_quiet (fail)
  go_wp2_with fail
  go_quiet ((go_at_call 10; exact quiet_add (same_any _ _ _ _ _ _ _ E _ (E2.out.drewN _) (E1.out.drewN _) (by omega))))
  go_wp2
  go_ret
  exact ⟨rfl, below_drewN (below_drewN BW2.out _) _⟩
theorem law5 (a0 : Bool) (w : World) : Calls Try.prog 5 #[.bool a0] w fun e w' => e = .returned (.bool true) ∧ Below w.heap.size w w' := by
  cases a0
  · exact law5f w
  · exact law5t w
end Go.Proofs.Ytnnpbjojailaeaa
