/- FnDollarBasePassLeavesNodeIntact, walked. -/
import Derived.Test.YtekiepkopcpdbaaMk
import Derived.Test.YtekiepkopcpdbaaBytes
import Derived.Test.YtekiepkopcpdbaaVDollar
namespace Go.Proofs.Ytekiepkopcpdbaa
open Go.RowKit
theorem open_still (S o : Nat) (w : World) : Calls Try.prog 42 #[.pointer (some ⟨S, o, none⟩)] w fun e w' => e = .returned (.pointer (some ⟨S, o, none⟩)) ∧ w' = w := (open_any S o w).mono fun _ _ h => ⟨h.1, h.2.symm⟩
set_option maxRecDepth 100000 in
set_option maxHeartbeats 8000000 in
theorem law5 (k b i : Int) (x0 : ByteArray) (w : World) : Calls Try.prog 5 #[.int .i64 k, .int .i64 b, .int .i64 i, .string x0] w fun e w' => e = .returned (.bool true) ∧ Below w.heap.size w w' := by
  go_enter Try.func5, Try.ntmps5
  go_wp2_with fail
  refine (bytes18_any _ _ _ _ _).mono ?_
  rintro e w' ⟨bb, rfl, rfl⟩
  cases bb
  · go_wp2
    go_ret
    exact ⟨rfl, Below.refl _ _⟩
  by_cases h0 : x0.size ≤ 65536
  rotate_left
  · go_wp2
    go_ret
    exact ⟨rfl, Below.refl _ _⟩
  go_wp2_with (first | (go_at_call 12; refine (fod_mk _ _ _ _ _).mono ?_; rintro e w' ⟨rfl, rfl⟩))
  clear h0
  generalize hW : World.alloc _ _ = W1
  have OW := Lib.hid (show Own w W1 by rw [← hW]; repeat (first | exact Own.refl _ | refine Own.al ?_ _))
  obtain ⟨cu, hU, e0⟩ : ∃ cu, W1.heap[w.heap.size]? = some (.cells cu 68 (0, 0)) ∧ cu[0]? = some (.slice (some ⟨w.heap.size + 1 + 1 + 1, 0, none⟩) 1 1) := by
    rw [← hW]
    exact ⟨_, at_old (at_old (at_old (at_old (at_old (at_new rfl))))), rfl⟩
  have hR : W1.heap[w.heap.size + 1 + 1 + 1 + 1 + 1]? = some (.cells #[.iface 66 (.pointer (some ⟨w.heap.size, 0, none⟩))] 27 (0, 0)) := by
    rw [← hW]
    repeat (first | exact at_new (by simp) | refine at_old ?_)
  have F0 := Lib.hid (show FodIs W1 (.slice (some ⟨w.heap.size + 1 + 1 + 1, 0, none⟩) 1 1) k b i x0 by
    rw [← hW]
    refine ⟨w.heap.size + 1 + 1 + 1, w.heap.size + 1, rfl, ?_, ?_⟩
    all_goals repeat (first | exact at_new (by simp) | refine at_old ?_))
  clear hW
  have VR := Lib.hid (vis_Dollar F0.out.fodV (cell_of (k := 0) hR rfl) (lt_of_at hR) hU e0)
  have HU := Lib.hid hU
  have HR := Lib.hid hR
  have E0 := Lib.hid e0
  clear hU hR e0
  refine (VR.out W1 (Own.refl _) _ _ _).mono ?_
  rintro e w3 ⟨rfl, hs⟩
  have Z0 := Lib.hid hs
  clear hs VR
  have m1 := mo_Dollar w.heap.size
  have pe := ptr53_eql
  have c0 := at_cell Z0.out HU.out E0.out
  have cr := at_cell (k := 0) Z0.out HR.out rfl
  go_wp2_with fail
  refine wp_region_still_tail 17 (by kernel_rfl) (by kernel_rfl) ?_
  simp only [List.take_succ_cons, List.take_zero, List.drop_succ_cons, List.drop_zero]
  repeat still_step
  still_call (open_still _ _ _)
  repeat still_step
  try refine wpStill_nil ?_
  change wpList _ _ _ _ _ w3.drew
  clear c0 cr
  have Z1 := Lib.hid Z0.out.drew
  generalize w3.drew = w4 at Z1 ⊢
  go_wp2_with fail
  refine (fodOK _ _ _ _ _ _ (F0.out.keep Z1.out)).mono ?_
  rintro e w5 ⟨rfl, hs⟩
  have Z2 := Lib.hid (Z1.out.go hs)
  clear hs Z1 Z0
  go_wp2
  go_ret
  exact ⟨rfl, OW.out.go Z2.out⟩
end Go.Proofs.Ytekiepkopcpdbaa
