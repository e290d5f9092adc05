/- FnConditionalBasePassLeavesTreeIntact, walked. -/
import Derived.Test.YtekiepkopcpdbaaMk
import Derived.Test.YtekiepkopcpdbaaBytes
import Derived.Test.YtekiepkopcpdbaaVConditional
import Derived.Test.YtekiepkopcpdbaaBConditional
namespace Go.Proofs.Ytekiepkopcpdbaa
open Go.RowKit
set_option maxRecDepth 100000 in
set_option maxHeartbeats 8000000 in
theorem law90 (x0 x1 x2 : ByteArray) (k b i : Int) (w : World) : Calls Try.prog 9 #[.string x0, .string x1, .string x2, .int .i64 k, .int .i64 b, .int .i64 i, .bool false] w fun e w' => e = .returned (.bool true) ∧ Below w.heap.size w w' := by
  go_enter Try.func9, Try.ntmps9
  go_wp2_with fail
  refine (bytes25_any _ _ _ _ _ _ _ _ ).mono ?_
  rintro e w' ⟨bb, rfl, rfl⟩
  cases bb
  · go_wp2
    go_ret
    exact ⟨rfl, Below.refl _ _⟩
  by_cases h0 : x0.size ≤ 65536
  rotate_left
  · go_wp2
    go_ret
    exact ⟨rfl, Below.refl _ _⟩
  by_cases h1 : x1.size ≤ 65536
  rotate_left
  · go_wp2
    go_ret
    exact ⟨rfl, Below.refl _ _⟩
  by_cases h2 : x2.size ≤ 65536
  rotate_left
  · go_wp2
    go_ret
    exact ⟨rfl, Below.refl _ _⟩
  go_wp2_with fail
  refine (lit_mk _ _ _ _ _).mono ?_
  rintro e u1 ⟨rfl, hs, hl⟩
  have S1 := Lib.hid (hs)
  have T0_0 := Lib.hid hl
  clear hs hl 
  go_wp2_with fail
  refine (lit_mk _ _ _ _ _).mono ?_
  rintro e u2 ⟨rfl, hs, hl⟩
  have S2 := Lib.hid (S1.out.go hs)
  have T1_1 := Lib.hid hl
  have T0_1 := Lib.hid (T0_0.out.keep hs)
  clear hs hl S1 T0_0
  go_wp2_with fail
  refine (lit_mk _ _ _ _ _).mono ?_
  rintro e w2 ⟨rfl, hs, hl⟩
  have S3 := Lib.hid (S2.out.go hs)
  have T2_2 := Lib.hid hl
  have T0_2 := Lib.hid (T0_1.out.keep hs)
  have T1_2 := Lib.hid (T1_1.out.keep hs)
  clear hs hl S2 T0_1 T1_1
  clear h0 h1 h2
  go_wp2_with (first | (go_at_call 12; refine (fod_mk _ _ _ _ _).mono ?_; rintro e w' ⟨rfl, rfl⟩))
  generalize hW : World.alloc _ _ = W1
  have OW := Lib.hid (show Own w2 W1 by rw [← hW]; repeat (first | exact Own.refl _ | refine Own.al ?_ _))
  obtain ⟨cu, hU, e0, e1, e2, e3, e4, e5⟩ : ∃ cu, W1.heap[w2.heap.size]? = some (.cells cu 63 (0, 0)) ∧ cu[0]? = some (.iface 23 (.pointer (some ⟨w.heap.size, 0, none⟩))) ∧ cu[1]? = some (.iface 23 (.pointer (some ⟨u1.heap.size, 0, none⟩))) ∧ cu[2]? = some (.nilIface) ∧ cu[3]? = some (.slice (some ⟨w2.heap.size + 1 + 1 + 1 + 1 + 1 + 1, 0, none⟩) 1 1) ∧ cu[4]? = some (.slice (some ⟨w2.heap.size + 1 + 1 + 1 + 1 + 1 + 1 + 1 + 1 + 1, 0, none⟩) 1 1) ∧ cu[5]? = some (.slice (some ⟨w2.heap.size + 1 + 1 + 1, 0, none⟩) 1 1) := by
    rw [← hW]
    exact ⟨_, at_old (at_old (at_old (at_old (at_old (at_old (at_old (at_old (at_old (at_old (at_old (at_new rfl))))))))))), rfl, rfl, rfl, rfl, rfl, rfl⟩
  have hR : W1.heap[w2.heap.size + 1 + 1 + 1 + 1 + 1 + 1 + 1 + 1 + 1 + 1 + 1]? = some (.cells #[.iface 61 (.pointer (some ⟨w2.heap.size, 0, none⟩))] 27 (0, 0)) := by
    rw [← hW]
    repeat (first | exact at_new (by simp) | refine at_old ?_)
  have F5 := Lib.hid (show FodIs W1 (.slice (some ⟨w2.heap.size + 1 + 1 + 1, 0, none⟩) 1 1) k b i x0 by
    rw [← hW]
    refine ⟨w2.heap.size + 1 + 1 + 1, w2.heap.size + 1, rfl, ?_, ?_⟩
    all_goals repeat (first | exact at_new (by simp) | refine at_old ?_))
  have F3 := Lib.hid (show FodIs W1 (.slice (some ⟨w2.heap.size + 1 + 1 + 1 + 1 + 1 + 1, 0, none⟩) 1 1) k b i x1 by
    rw [← hW]
    refine ⟨w2.heap.size + 1 + 1 + 1 + 1 + 1 + 1, w2.heap.size + 1 + 1 + 1 + 1, rfl, ?_, ?_⟩
    all_goals repeat (first | exact at_new (by simp) | refine at_old ?_))
  have F4 := Lib.hid (show FodIs W1 (.slice (some ⟨w2.heap.size + 1 + 1 + 1 + 1 + 1 + 1 + 1 + 1 + 1, 0, none⟩) 1 1) k b i x2 by
    rw [← hW]
    refine ⟨w2.heap.size + 1 + 1 + 1 + 1 + 1 + 1 + 1 + 1 + 1, w2.heap.size + 1 + 1 + 1 + 1 + 1 + 1 + 1, rfl, ?_, ?_⟩
    all_goals repeat (first | exact at_new (by simp) | refine at_old ?_))
  have T0 := Lib.hid (T0_2.out.keep OW.out)
  have T1 := Lib.hid (T1_2.out.keep OW.out)
  have T2 := Lib.hid (T2_2.out.keep OW.out)
  clear hW T0_2 T1_2 T2_2
  have V0 := Lib.hid (T0.out.vis (cell_of hU e0) (lt_of_at hU))
  have V1 := Lib.hid (T1.out.vis (cell_of hU e1) (lt_of_at hU))
  have G5 := Lib.hid (fodS_of (lt_of_at hU) F5.out.fodV (cell_of hU e5))
  have G3 := Lib.hid (fodS_of (lt_of_at hU) F3.out.fodV (cell_of hU e3))
  have G4 := Lib.hid (fodS_of (lt_of_at hU) F4.out.fodV (cell_of hU e4))
  have VR := Lib.hid (vis_Conditional F5.out.fodV (cell_of (k := 0) hR rfl) (lt_of_at hR) hU e5 fun w3 h2 ctx B => conditionalB_0 _ ctx B _ w3 (Nat.lt_of_lt_of_le (lt_of_at hU) h2.size) (h2.cell (lt_of_at hU) (cell_of hU e2)) (V0.out.keep h2) (G3.out.keep h2) (V1.out.keep h2))
  have HU := Lib.hid hU
  have HR := Lib.hid hR
  have SW := Lib.hid (S3.out.go OW.out)
  clear S3 OW hU hR G3 G4 G5 V0 V1
  have E0 := Lib.hid e0
  have E1 := Lib.hid e1
  have E2 := Lib.hid e2
  have E3 := Lib.hid e3
  have E4 := Lib.hid e4
  have E5 := Lib.hid e5
  clear e0 e1 e2 e3 e4 e5
  refine (VR.out W1 (Own.refl _) _ _ _).mono ?_
  rintro e w3 ⟨rfl, hs⟩
  have Z0 := Lib.hid hs
  clear hs VR
  have m1 := mo_Conditional w2.heap.size
  have ml0 := mo_LiteralNumber w.heap.size
  have ml1 := mo_LiteralNumber u1.heap.size
  have pn := ptr53_neq
  have pe := ptr53_eql
  have c0 := at_cell Z0.out HU.out E0.out
  have c1 := at_cell Z0.out HU.out E1.out
  have c2 := at_cell Z0.out HU.out E2.out
  have c3 := at_cell Z0.out HU.out E3.out
  have c4 := at_cell Z0.out HU.out E4.out
  have c5 := at_cell Z0.out HU.out E5.out
  have cr := at_cell (k := 0) Z0.out HR.out rfl
  go_wp2_with fail
  go_quiet ((go_at_call 42; exact open_q _ _ _ _))
  generalize hq : World.drewN _ _ = q0
  have Z1 := Lib.hid (show Own W1 q0 by rw [← hq]; exact below_drewN Z0.out _)
  clear hq Z0
  clear c0 c1 c2 c3 c4 c5 cr
  have c0 := at_cell Z1.out HU.out E0.out
  have c1 := at_cell Z1.out HU.out E1.out
  have c2 := at_cell Z1.out HU.out E2.out
  have c3 := at_cell Z1.out HU.out E3.out
  have c4 := at_cell Z1.out HU.out E4.out
  have c5 := at_cell Z1.out HU.out E5.out
  go_wp2_with fail
  refine (litOK _ _ _ _ _ _ (T0.out.keep Z1.out)).mono ?_
  rintro e w4 ⟨rfl, hs⟩
  have Z2 := Lib.hid (Z1.out.go hs)
  clear hs Z1
  clear c0 c1 c2 c3 c4 c5
  have c0 := at_cell Z2.out HU.out E0.out
  have c1 := at_cell Z2.out HU.out E1.out
  have c2 := at_cell Z2.out HU.out E2.out
  have c3 := at_cell Z2.out HU.out E3.out
  have c4 := at_cell Z2.out HU.out E4.out
  have c5 := at_cell Z2.out HU.out E5.out
  go_wp2_with fail
  refine (litOK _ _ _ _ _ _ (T1.out.keep Z2.out)).mono ?_
  rintro e w5 ⟨rfl, hs⟩
  have Z3 := Lib.hid (Z2.out.go hs)
  clear hs Z2
  clear c0 c1 c2 c3 c4 c5
  have c0 := at_cell Z3.out HU.out E0.out
  have c1 := at_cell Z3.out HU.out E1.out
  have c2 := at_cell Z3.out HU.out E2.out
  have c3 := at_cell Z3.out HU.out E3.out
  have c4 := at_cell Z3.out HU.out E4.out
  have c5 := at_cell Z3.out HU.out E5.out
  go_wp2_with fail
  refine (litOK _ _ _ _ _ _ (T2.out.keep Z3.out)).mono ?_
  rintro e w6 ⟨rfl, hs⟩
  have Z4 := Lib.hid (Z3.out.go hs)
  clear hs Z3
  clear c0 c1 c2 c3 c4 c5
  have c0 := at_cell Z4.out HU.out E0.out
  have c1 := at_cell Z4.out HU.out E1.out
  have c2 := at_cell Z4.out HU.out E2.out
  have c3 := at_cell Z4.out HU.out E3.out
  have c4 := at_cell Z4.out HU.out E4.out
  have c5 := at_cell Z4.out HU.out E5.out
  go_wp2_with fail
  refine (fodOK _ _ _ _ _ _ (F5.out.keep Z4.out)).mono ?_
  rintro e w7 ⟨rfl, hs⟩
  have Z5 := Lib.hid (Z4.out.go hs)
  clear hs Z4
  clear c0 c1 c2 c3 c4 c5
  have c0 := at_cell Z5.out HU.out E0.out
  have c1 := at_cell Z5.out HU.out E1.out
  have c2 := at_cell Z5.out HU.out E2.out
  have c3 := at_cell Z5.out HU.out E3.out
  have c4 := at_cell Z5.out HU.out E4.out
  have c5 := at_cell Z5.out HU.out E5.out
  go_wp2_with fail
  refine (fodOK _ _ _ _ _ _ (F3.out.keep Z5.out)).mono ?_
  rintro e w8 ⟨rfl, hs⟩
  have Z6 := Lib.hid (Z5.out.go hs)
  clear hs Z5
  clear c0 c1 c2 c3 c4 c5
  have c0 := at_cell Z6.out HU.out E0.out
  have c1 := at_cell Z6.out HU.out E1.out
  have c2 := at_cell Z6.out HU.out E2.out
  have c3 := at_cell Z6.out HU.out E3.out
  have c4 := at_cell Z6.out HU.out E4.out
  have c5 := at_cell Z6.out HU.out E5.out
  go_wp2_with fail
  refine (fodOK _ _ _ _ _ _ (F4.out.keep Z6.out)).mono ?_
  rintro e w9 ⟨rfl, hs⟩
  have Z7 := Lib.hid (Z6.out.go hs)
  clear hs Z6
  clear c0 c1 c2 c3 c4 c5
  have c0 := at_cell Z7.out HU.out E0.out
  have c1 := at_cell Z7.out HU.out E1.out
  have c2 := at_cell Z7.out HU.out E2.out
  have c3 := at_cell Z7.out HU.out E3.out
  have c4 := at_cell Z7.out HU.out E4.out
  have c5 := at_cell Z7.out HU.out E5.out
  go_wp2_with fail
  go_quiet ((go_at_call 42; exact open_q _ _ _ _))
  generalize hq : World.drewN _ _ = q7
  have Z8 := Lib.hid (show Own W1 q7 by rw [← hq]; exact below_drewN Z7.out _)
  clear hq Z7
  clear c0 c1 c2 c3 c4 c5
  have c0 := at_cell Z8.out HU.out E0.out
  have c1 := at_cell Z8.out HU.out E1.out
  have c2 := at_cell Z8.out HU.out E2.out
  have c3 := at_cell Z8.out HU.out E3.out
  have c4 := at_cell Z8.out HU.out E4.out
  have c5 := at_cell Z8.out HU.out E5.out
  go_wp2
  go_ret
  exact ⟨rfl, SW.out.go Z8.out⟩
set_option maxRecDepth 100000 in
set_option maxHeartbeats 8000000 in
theorem law91 (x0 x1 x2 : ByteArray) (k b i : Int) (w : World) : Calls Try.prog 9 #[.string x0, .string x1, .string x2, .int .i64 k, .int .i64 b, .int .i64 i, .bool true] w fun e w' => e = .returned (.bool true) ∧ Below w.heap.size w w' := by
  go_enter Try.func9, Try.ntmps9
  go_wp2_with fail
  refine (bytes25_any _ _ _ _ _ _ _ _ ).mono ?_
  rintro e w' ⟨bb, rfl, rfl⟩
  cases bb
  · go_wp2
    go_ret
    exact ⟨rfl, Below.refl _ _⟩
  by_cases h0 : x0.size ≤ 65536
  rotate_left
  · go_wp2
    go_ret
    exact ⟨rfl, Below.refl _ _⟩
  by_cases h1 : x1.size ≤ 65536
  rotate_left
  · go_wp2
    go_ret
    exact ⟨rfl, Below.refl _ _⟩
  by_cases h2 : x2.size ≤ 65536
  rotate_left
  · go_wp2
    go_ret
    exact ⟨rfl, Below.refl _ _⟩
  go_wp2_with fail
  refine (lit_mk _ _ _ _ _).mono ?_
  rintro e u1 ⟨rfl, hs, hl⟩
  have S1 := Lib.hid (hs)
  have T0_0 := Lib.hid hl
  clear hs hl 
  go_wp2_with fail
  refine (lit_mk _ _ _ _ _).mono ?_
  rintro e u2 ⟨rfl, hs, hl⟩
  have S2 := Lib.hid (S1.out.go hs)
  have T1_1 := Lib.hid hl
  have T0_1 := Lib.hid (T0_0.out.keep hs)
  clear hs hl S1 T0_0
  go_wp2_with fail
  refine (lit_mk _ _ _ _ _).mono ?_
  rintro e w2 ⟨rfl, hs, hl⟩
  have S3 := Lib.hid (S2.out.go hs)
  have T2_2 := Lib.hid hl
  have T0_2 := Lib.hid (T0_1.out.keep hs)
  have T1_2 := Lib.hid (T1_1.out.keep hs)
  clear hs hl S2 T0_1 T1_1
  clear h0 h1 h2
  go_wp2_with (first | (go_at_call 12; refine (fod_mk _ _ _ _ _).mono ?_; rintro e w' ⟨rfl, rfl⟩))
  generalize hW : World.alloc _ _ = W1
  have OW := Lib.hid (show Own w2 W1 by rw [← hW]; repeat (first | exact Own.refl _ | refine Own.al ?_ _))
  obtain ⟨cu, hU, e0, e1, e2, e3, e4, e5⟩ : ∃ cu, W1.heap[w2.heap.size]? = some (.cells cu 63 (0, 0)) ∧ cu[0]? = some (.iface 23 (.pointer (some ⟨w.heap.size, 0, none⟩))) ∧ cu[1]? = some (.iface 23 (.pointer (some ⟨u1.heap.size, 0, none⟩))) ∧ cu[2]? = some (.iface 23 (.pointer (some ⟨u2.heap.size, 0, none⟩))) ∧ cu[3]? = some (.slice (some ⟨w2.heap.size + 1 + 1 + 1 + 1 + 1 + 1, 0, none⟩) 1 1) ∧ cu[4]? = some (.slice (some ⟨w2.heap.size + 1 + 1 + 1 + 1 + 1 + 1 + 1 + 1 + 1, 0, none⟩) 1 1) ∧ cu[5]? = some (.slice (some ⟨w2.heap.size + 1 + 1 + 1, 0, none⟩) 1 1) := by
    rw [← hW]
    exact ⟨_, at_old (at_old (at_old (at_old (at_old (at_old (at_old (at_old (at_old (at_old (at_old (at_new rfl))))))))))), rfl, rfl, rfl, rfl, rfl, rfl⟩
  have hR : W1.heap[w2.heap.size + 1 + 1 + 1 + 1 + 1 + 1 + 1 + 1 + 1 + 1 + 1]? = some (.cells #[.iface 61 (.pointer (some ⟨w2.heap.size, 0, none⟩))] 27 (0, 0)) := by
    rw [← hW]
    repeat (first | exact at_new (by simp) | refine at_old ?_)
  have F5 := Lib.hid (show FodIs W1 (.slice (some ⟨w2.heap.size + 1 + 1 + 1, 0, none⟩) 1 1) k b i x0 by
    rw [← hW]
    refine ⟨w2.heap.size + 1 + 1 + 1, w2.heap.size + 1, rfl, ?_, ?_⟩
    all_goals repeat (first | exact at_new (by simp) | refine at_old ?_))
  have F3 := Lib.hid (show FodIs W1 (.slice (some ⟨w2.heap.size + 1 + 1 + 1 + 1 + 1 + 1, 0, none⟩) 1 1) k b i x1 by
    rw [← hW]
    refine ⟨w2.heap.size + 1 + 1 + 1 + 1 + 1 + 1, w2.heap.size + 1 + 1 + 1 + 1, rfl, ?_, ?_⟩
    all_goals repeat (first | exact at_new (by simp) | refine at_old ?_))
  have F4 := Lib.hid (show FodIs W1 (.slice (some ⟨w2.heap.size + 1 + 1 + 1 + 1 + 1 + 1 + 1 + 1 + 1, 0, none⟩) 1 1) k b i x2 by
    rw [← hW]
    refine ⟨w2.heap.size + 1 + 1 + 1 + 1 + 1 + 1 + 1 + 1 + 1, w2.heap.size + 1 + 1 + 1 + 1 + 1 + 1 + 1, rfl, ?_, ?_⟩
    all_goals repeat (first | exact at_new (by simp) | refine at_old ?_))
  have T0 := Lib.hid (T0_2.out.keep OW.out)
  have T1 := Lib.hid (T1_2.out.keep OW.out)
  have T2 := Lib.hid (T2_2.out.keep OW.out)
  clear hW T0_2 T1_2 T2_2
  have V0 := Lib.hid (T0.out.vis (cell_of hU e0) (lt_of_at hU))
  have V1 := Lib.hid (T1.out.vis (cell_of hU e1) (lt_of_at hU))
  have V2 := Lib.hid (T2.out.vis (cell_of hU e2) (lt_of_at hU))
  have G5 := Lib.hid (fodS_of (lt_of_at hU) F5.out.fodV (cell_of hU e5))
  have G3 := Lib.hid (fodS_of (lt_of_at hU) F3.out.fodV (cell_of hU e3))
  have G4 := Lib.hid (fodS_of (lt_of_at hU) F4.out.fodV (cell_of hU e4))
  have VR := Lib.hid (vis_Conditional F5.out.fodV (cell_of (k := 0) hR rfl) (lt_of_at hR) hU e5 fun w3 h2 ctx B => conditionalB_1 _ ctx B _ w3 (Nat.lt_of_lt_of_le (lt_of_at hU) h2.size) _ _ (h2.cell (lt_of_at hU) (cell_of hU e2)) (V0.out.keep h2) (G3.out.keep h2) (V1.out.keep h2) (G4.out.keep h2) (V2.out.keep h2))
  have HU := Lib.hid hU
  have HR := Lib.hid hR
  have SW := Lib.hid (S3.out.go OW.out)
  clear S3 OW hU hR G3 G4 G5 V0 V1 V2
  have E0 := Lib.hid e0
  have E1 := Lib.hid e1
  have E2 := Lib.hid e2
  have E3 := Lib.hid e3
  have E4 := Lib.hid e4
  have E5 := Lib.hid e5
  clear e0 e1 e2 e3 e4 e5
  refine (VR.out W1 (Own.refl _) _ _ _).mono ?_
  rintro e w3 ⟨rfl, hs⟩
  have Z0 := Lib.hid hs
  clear hs VR
  have m1 := mo_Conditional w2.heap.size
  have ml0 := mo_LiteralNumber w.heap.size
  have ml1 := mo_LiteralNumber u1.heap.size
  have ml2 := mo_LiteralNumber u2.heap.size
  have pn := ptr53_neq
  have pe := ptr53_eql
  have c0 := at_cell Z0.out HU.out E0.out
  have c1 := at_cell Z0.out HU.out E1.out
  have c2 := at_cell Z0.out HU.out E2.out
  have c3 := at_cell Z0.out HU.out E3.out
  have c4 := at_cell Z0.out HU.out E4.out
  have c5 := at_cell Z0.out HU.out E5.out
  have cr := at_cell (k := 0) Z0.out HR.out rfl
  go_wp2_with fail
  go_quiet ((go_at_call 42; exact open_q _ _ _ _))
  generalize hq : World.drewN _ _ = q0
  have Z1 := Lib.hid (show Own W1 q0 by rw [← hq]; exact below_drewN Z0.out _)
  clear hq Z0
  clear c0 c1 c2 c3 c4 c5 cr
  have c0 := at_cell Z1.out HU.out E0.out
  have c1 := at_cell Z1.out HU.out E1.out
  have c2 := at_cell Z1.out HU.out E2.out
  have c3 := at_cell Z1.out HU.out E3.out
  have c4 := at_cell Z1.out HU.out E4.out
  have c5 := at_cell Z1.out HU.out E5.out
  go_wp2_with fail
  refine (litOK _ _ _ _ _ _ (T0.out.keep Z1.out)).mono ?_
  rintro e w4 ⟨rfl, hs⟩
  have Z2 := Lib.hid (Z1.out.go hs)
  clear hs Z1
  clear c0 c1 c2 c3 c4 c5
  have c0 := at_cell Z2.out HU.out E0.out
  have c1 := at_cell Z2.out HU.out E1.out
  have c2 := at_cell Z2.out HU.out E2.out
  have c3 := at_cell Z2.out HU.out E3.out
  have c4 := at_cell Z2.out HU.out E4.out
  have c5 := at_cell Z2.out HU.out E5.out
  go_wp2_with fail
  refine (litOK _ _ _ _ _ _ (T1.out.keep Z2.out)).mono ?_
  rintro e w5 ⟨rfl, hs⟩
  have Z3 := Lib.hid (Z2.out.go hs)
  clear hs Z2
  clear c0 c1 c2 c3 c4 c5
  have c0 := at_cell Z3.out HU.out E0.out
  have c1 := at_cell Z3.out HU.out E1.out
  have c2 := at_cell Z3.out HU.out E2.out
  have c3 := at_cell Z3.out HU.out E3.out
  have c4 := at_cell Z3.out HU.out E4.out
  have c5 := at_cell Z3.out HU.out E5.out
  go_wp2_with fail
  refine (litOK _ _ _ _ _ _ (T2.out.keep Z3.out)).mono ?_
  rintro e w6 ⟨rfl, hs⟩
  have Z4 := Lib.hid (Z3.out.go hs)
  clear hs Z3
  clear c0 c1 c2 c3 c4 c5
  have c0 := at_cell Z4.out HU.out E0.out
  have c1 := at_cell Z4.out HU.out E1.out
  have c2 := at_cell Z4.out HU.out E2.out
  have c3 := at_cell Z4.out HU.out E3.out
  have c4 := at_cell Z4.out HU.out E4.out
  have c5 := at_cell Z4.out HU.out E5.out
  go_wp2_with fail
  refine (fodOK _ _ _ _ _ _ (F5.out.keep Z4.out)).mono ?_
  rintro e w7 ⟨rfl, hs⟩
  have Z5 := Lib.hid (Z4.out.go hs)
  clear hs Z4
  clear c0 c1 c2 c3 c4 c5
  have c0 := at_cell Z5.out HU.out E0.out
  have c1 := at_cell Z5.out HU.out E1.out
  have c2 := at_cell Z5.out HU.out E2.out
  have c3 := at_cell Z5.out HU.out E3.out
  have c4 := at_cell Z5.out HU.out E4.out
  have c5 := at_cell Z5.out HU.out E5.out
  go_wp2_with fail
  refine (fodOK _ _ _ _ _ _ (F3.out.keep Z5.out)).mono ?_
  rintro e w8 ⟨rfl, hs⟩
  have Z6 := Lib.hid (Z5.out.go hs)
  clear hs Z5
  clear c0 c1 c2 c3 c4 c5
  have c0 := at_cell Z6.out HU.out E0.out
  have c1 := at_cell Z6.out HU.out E1.out
  have c2 := at_cell Z6.out HU.out E2.out
  have c3 := at_cell Z6.out HU.out E3.out
  have c4 := at_cell Z6.out HU.out E4.out
  have c5 := at_cell Z6.out HU.out E5.out
  go_wp2_with fail
  refine (fodOK _ _ _ _ _ _ (F4.out.keep Z6.out)).mono ?_
  rintro e w9 ⟨rfl, hs⟩
  have Z7 := Lib.hid (Z6.out.go hs)
  clear hs Z6
  clear c0 c1 c2 c3 c4 c5
  have c0 := at_cell Z7.out HU.out E0.out
  have c1 := at_cell Z7.out HU.out E1.out
  have c2 := at_cell Z7.out HU.out E2.out
  have c3 := at_cell Z7.out HU.out E3.out
  have c4 := at_cell Z7.out HU.out E4.out
  have c5 := at_cell Z7.out HU.out E5.out
  go_wp2_with fail
  go_quiet ((go_at_call 42; exact open_q _ _ _ _))
  generalize hq : World.drewN _ _ = q7
  have Z8 := Lib.hid (show Own W1 q7 by rw [← hq]; exact below_drewN Z7.out _)
  clear hq Z7
  clear c0 c1 c2 c3 c4 c5
  have c0 := at_cell Z8.out HU.out E0.out
  have c1 := at_cell Z8.out HU.out E1.out
  have c2 := at_cell Z8.out HU.out E2.out
  have c3 := at_cell Z8.out HU.out E3.out
  have c4 := at_cell Z8.out HU.out E4.out
  have c5 := at_cell Z8.out HU.out E5.out
  go_wp2_with fail
  go_quiet ((go_at_call 42; exact open_q _ _ _ _))
  generalize hq : World.drewN _ _ = q8
  have Z9 := Lib.hid (show Own W1 q8 by rw [← hq]; exact below_drewN Z8.out _)
  clear hq Z8
  clear c0 c1 c2 c3 c4 c5
  go_wp2
  go_ret
  exact ⟨rfl, SW.out.go Z9.out⟩
end Go.Proofs.Ytekiepkopcpdbaa
