/- The law on Base.Conditional and the recording pass, walked. -/
import Derived.Test.YtekiepkopcpdbaaFrm
import Derived.Test.YtekiepkopcpdbaaBytes
import Derived.Test.YtekiepkopcpdbaaVConditional
namespace Go.Proofs.Ytekiepkopcpdbaa
open Go.RowKit
set_option maxRecDepth 100000 in
set_option maxHeartbeats 8000000 in
theorem law40 (x0 : ByteArray) (w : World) : Calls Try.prog 4 #[.bool false, .string x0] w fun e w' => e = .returned (.bool true) ∧ Below w.heap.size w w' := by
  go_enter Try.func4, Try.ntmps4
  go_wp2_with fail
  refine (bytes16_any _ _ _ ).mono ?_
  rintro e w' ⟨bb, rfl, rfl⟩
  cases bb
  · go_wp2
    go_ret
    exact ⟨rfl, Below.refl _ _⟩
  by_cases h0 : x0.size ≤ 65536
  rotate_left
  · go_wp2
    go_ret
    exact ⟨rfl, Below.refl _ _⟩
  go_wp2_with fail
  refine (lit_mk _ _ _ _ _).mono ?_
  rintro e u1 ⟨rfl, hs, hl⟩
  have S1 := Lib.hid (hs)
  clear hs hl
  go_wp2_with fail
  refine (lit_mk _ _ _ _ _).mono ?_
  rintro e u2 ⟨rfl, hs, hl⟩
  have S2 := Lib.hid (S1.out.go hs)
  clear hs hl S1
  go_wp2_with fail
  refine (lit_mk _ _ _ _ _).mono ?_
  rintro e w2 ⟨rfl, hs, hl⟩
  have S3 := Lib.hid (S2.out.go hs)
  clear hs hl S2
  clear h0
  go_wp2_with (first | (go_at_call 12; refine (fod_mk _ _ _ _ _).mono ?_; rintro e w' ⟨rfl, rfl⟩))
  generalize hW : World.alloc _ _ = W1
  have OW := Lib.hid (show Own w2 W1 by rw [← hW]; repeat (first | exact Own.refl _ | refine Own.al ?_ _))
  obtain ⟨cu, hU, e0, e1, e2, e3, e4, e5⟩ : ∃ cu, W1.heap[w2.heap.size]? = some (.cells cu 63 (0, 0)) ∧ cu[0]? = some (.iface 23 (.pointer (some ⟨w.heap.size, 0, none⟩))) ∧ cu[1]? = some (.iface 23 (.pointer (some ⟨u1.heap.size, 0, none⟩))) ∧ cu[2]? = some (.nilIface) ∧ cu[3]? = some (.slice (some ⟨w2.heap.size + 1 + 1 + 1 + 1 + 1 + 1, 0, none⟩) 1 1) ∧ cu[4]? = some (.slice (some ⟨w2.heap.size + 1 + 1 + 1 + 1 + 1 + 1 + 1 + 1 + 1, 0, none⟩) 1 1) ∧ cu[5]? = some (.slice (some ⟨w2.heap.size + 1 + 1 + 1, 0, none⟩) 1 1) := by
    rw [← hW]
    exact ⟨_, at_old (at_old (at_old (at_old (at_old (at_old (at_old (at_old (at_old (at_old (at_new rfl)))))))))), rfl, rfl, rfl, rfl, rfl, rfl⟩
  have hR : W1.heap[w2.heap.size + 1 + 1 + 1 + 1 + 1 + 1 + 1 + 1 + 1 + 1]? = some (.cells #[.slice none 0 0, .slice none 0 0, .slice none 0 0] 51 (0, 0)) := by
    rw [← hW]
    repeat (first | exact at_new (by simp) | refine at_old ?_)
  have hz : W1.heap.size = w2.heap.size + 1 + 1 + 1 + 1 + 1 + 1 + 1 + 1 + 1 + 1 + 1 := by rw [← hW]; simp
  have F5 := Lib.hid (show FodIs W1 (.slice (some ⟨w2.heap.size + 1 + 1 + 1, 0, none⟩) 1 1) 0 1 0 x0 by
    rw [← hW]
    refine ⟨w2.heap.size + 1 + 1 + 1, w2.heap.size + 1, rfl, ?_, ?_⟩
    all_goals repeat (first | (refine at_new ?_; (simp; done)) | refine at_old ?_))
  have F3 := Lib.hid (show FodIs W1 (.slice (some ⟨w2.heap.size + 1 + 1 + 1 + 1 + 1 + 1, 0, none⟩) 1 1) 0 2 0 x0 by
    rw [← hW]
    refine ⟨w2.heap.size + 1 + 1 + 1 + 1 + 1 + 1, w2.heap.size + 1 + 1 + 1 + 1, rfl, ?_, ?_⟩
    all_goals repeat (first | (refine at_new ?_; (simp; done)) | refine at_old ?_))
  have F4 := Lib.hid (show FodIs W1 (.slice (some ⟨w2.heap.size + 1 + 1 + 1 + 1 + 1 + 1 + 1 + 1 + 1, 0, none⟩) 1 1) 0 3 0 x0 by
    rw [← hW]
    refine ⟨w2.heap.size + 1 + 1 + 1 + 1 + 1 + 1 + 1 + 1 + 1, w2.heap.size + 1 + 1 + 1 + 1 + 1 + 1 + 1, rfl, ?_, ?_⟩
    all_goals repeat (first | (refine at_new ?_; (simp; done)) | refine at_old ?_))
  clear hW
  have HU := Lib.hid hU
  have HR := Lib.hid hR
  have HZ := Lib.hid hz
  clear hz hU
  have fr0 : W1.frozen? ⟨w2.heap.size + 1 + 1 + 1 + 1 + 1 + 1 + 1 + 1 + 1 + 1, 0, none⟩ = false := by simp [World.frozen?, hR]
  have fc0 : W1.cell? ⟨w2.heap.size + 1 + 1 + 1 + 1 + 1 + 1 + 1 + 1 + 1 + 1, 0, none⟩ = some (.slice none 0 0) := cell_of hR rfl
  have bl := lt_of_at hR
  clear hR
  have E0 := Lib.hid e0
  have E1 := Lib.hid e1
  have E2 := Lib.hid e2
  have E3 := Lib.hid e3
  have E4 := Lib.hid e4
  have E5 := Lib.hid e5
  clear e0 e1 e2 e3 e4 e5
  go_region
  generalize hW : World.drew _ = W2
  have Q2 := Lib.hid (show Frm W1 W2 (w2.heap.size + 1 + 1 + 1 + 1 + 1 + 1 + 1 + 1 + 1 + 1) by rw [← hW]; exact frm_store _ _ _ _ _)
  have G2 := Lib.hid (show W2.heap[W1.heap.size]? = some (.cells (ptrs w2.heap.size [0, 1, 2]) 52 (0, 0)) by rw [← hW]; exact at_store_new _ _ _ _ _)
  have R2 := Lib.hid (show W2.heap[w2.heap.size + 1 + 1 + 1 + 1 + 1 + 1 + 1 + 1 + 1 + 1]? = some (.cells #[slv W1.heap.size 3, .slice none 0 0, .slice none 0 0] 51 (0, 0)) by rw [← hW]; exact at_store HR.out)
  have Z2 := Lib.hid (show W2.heap.size = W1.heap.size + 1 by rw [← hW]; exact size_store _ _ _ _ _)
  clear hW fr0 fc0 bl
  have bl := lt_of_at R2.out
  have fr0 : W2.frozen? ⟨w2.heap.size + 1 + 1 + 1 + 1 + 1 + 1 + 1 + 1 + 1 + 1, 1, none⟩ = false := by simp [World.frozen?, R2.out]
  have fc0 : W2.cell? ⟨w2.heap.size + 1 + 1 + 1 + 1 + 1 + 1 + 1 + 1 + 1 + 1, 1, none⟩ = some (.slice none 0 0) := cell_of R2.out rfl
  go_wp2_with fail
  go_region
  generalize hW : World.drew _ = W0
  have x1 := Lib.hid (show Frm W2 W0 (w2.heap.size + 1 + 1 + 1 + 1 + 1 + 1 + 1 + 1 + 1 + 1) by rw [← hW]; exact frm_store _ _ _ _ _)
  have x2 := Lib.hid (show W0.heap[W2.heap.size]? = some (.cells (ptrs w2.heap.size [3, 4, 5]) 53 (0, 0)) by rw [← hW]; exact at_store_new _ _ _ _ _)
  have x3 := Lib.hid (show W0.heap[w2.heap.size + 1 + 1 + 1 + 1 + 1 + 1 + 1 + 1 + 1 + 1]? = some (.cells #[slv W1.heap.size 3, slv W2.heap.size 3, .slice none 0 0] 51 (0, 0)) by rw [← hW]; exact at_store R2.out)
  clear hW fr0 fc0 bl
  go_wp2_with fail
  generalize hw0 : World.alloc _ _ = W3
  have Q3 := Lib.hid (show Frm W1 W3 (w2.heap.size + 1 + 1 + 1 + 1 + 1 + 1 + 1 + 1 + 1 + 1) by rw [← hw0]; exact Q2.out.trans (x1.out.trans (((Own.refl _).al _).frm _)))
  have G3 := Lib.hid (show W3.heap[W1.heap.size]? = some (.cells (ptrs w2.heap.size [0, 1, 2]) 52 (0, 0)) by rw [← hw0]; exact at_old (x1.out.at G2.out (by have := HZ.out; omega)))
  have H3 := Lib.hid (show W3.heap[W2.heap.size]? = some (.cells (ptrs w2.heap.size [3, 4, 5]) 53 (0, 0)) by rw [← hw0]; exact at_old x2.out)
  have R3 := Lib.hid (show W3.heap[w2.heap.size + 1 + 1 + 1 + 1 + 1 + 1 + 1 + 1 + 1 + 1]? = some (.cells #[slv W1.heap.size 3, slv W2.heap.size 3, .slice none 0 0] 51 (0, 0)) by rw [← hw0]; exact at_old x3.out)
  clear hw0 x1 x2 x3 G2 R2 Q2
  have CC := Lib.hid (show Ctx W3 (w2.heap.size + 1 + 1 + 1 + 1 + 1 + 1 + 1 + 1 + 1 + 1) w2.heap.size 63 W1.heap.size W2.heap.size cu [0, 1, 2] [3, 4, 5] from ⟨by have := HZ.out; omega, by have := HZ.out; have := Z2.out; omega, by omega, G3.out, H3.out, Q3.out.at HU.out (by omega)⟩)
  clear G3 H3
  refine (conditionalR0 CC.out (RecSt.start R3.out) E2.out _ _).mono ?_
  rintro e w5 ⟨rfl, hs⟩
  have RS := Lib.hid hs
  obtain ⟨gg, cap, hcap, hgl, hlog, hints⟩ := hs.ints (by simp)
  have HI := Lib.hid hints
  have HG := Lib.hid hgl
  clear hs CC R3 hints hgl
  simp only [List.length_cons, List.length_nil, Nat.zero_add, Nat.reduceAdd] at hlog hcap
  go_wp2_with fail
  refine (eq_any _ _ _ 3 _ _ [0, 10, 1] rfl (by omega) (HI.out.own HG.out ((Own.refl _).al _)) (by
    intro k hk
    simp only [List.length_cons, List.length_nil, Nat.zero_add, Nat.reduceAdd] at hk
    refine cell_of (heap_alloc_new w5 _) ?_
    rcases k with _ | _ | _ | k
    all_goals first | rfl | omega)).mono ?_
  rintro e w6 ⟨rfl, hs⟩
  have Q6 := Lib.hid (Q3.out.trans (RS.out.frm.trans ((((Own.refl w5).al _).go hs).frm _)))
  clear hs hlog hcap HI HG RS Q3
  have KU := Lib.hid (Q6.out.at HU.out (by omega))
  have SW := Lib.hid (Frm.below (S3.out.go OW.out) Q6.out (by have := S3.out.size; omega))
  have K5 := Lib.hid (F5.out.frm Q6.out HR.out)
  have K3 := Lib.hid (F3.out.frm Q6.out HR.out)
  have K4 := Lib.hid (F4.out.frm Q6.out HR.out)
  clear S3 OW Q6 HU HR F5 F3 F4
  have Y0 := Lib.hid (Own.refl w6)
  have m1 := mo_Conditional w2.heap.size
  have ml0 := mo_LiteralNumber w.heap.size
  have ml1 := mo_LiteralNumber u1.heap.size
  have pn := ptr53_neq
  have pe := ptr53_eql
  have c0 := at_cell Y0.out KU.out E0.out
  have c1 := at_cell Y0.out KU.out E1.out
  have c2 := at_cell Y0.out KU.out E2.out
  have c3 := at_cell Y0.out KU.out E3.out
  have c4 := at_cell Y0.out KU.out E4.out
  have c5 := at_cell Y0.out KU.out E5.out
  go_wp2_with fail
  refine (fodOK _ _ _ _ _ _ (K5.out.keep Y0.out)).mono ?_
  rintro e v0 ⟨rfl, hs⟩
  have Y1 := Lib.hid (Y0.out.go hs)
  clear hs Y0
  clear c0 c1 c2 c3 c4 c5
  have c0 := at_cell Y1.out KU.out E0.out
  have c1 := at_cell Y1.out KU.out E1.out
  have c2 := at_cell Y1.out KU.out E2.out
  have c3 := at_cell Y1.out KU.out E3.out
  have c4 := at_cell Y1.out KU.out E4.out
  have c5 := at_cell Y1.out KU.out E5.out
  go_wp2_with fail
  refine (fodOK _ _ _ _ _ _ (K3.out.keep Y1.out)).mono ?_
  rintro e v1 ⟨rfl, hs⟩
  have Y2 := Lib.hid (Y1.out.go hs)
  clear hs Y1
  clear c0 c1 c2 c3 c4 c5
  have c0 := at_cell Y2.out KU.out E0.out
  have c1 := at_cell Y2.out KU.out E1.out
  have c2 := at_cell Y2.out KU.out E2.out
  have c3 := at_cell Y2.out KU.out E3.out
  have c4 := at_cell Y2.out KU.out E4.out
  have c5 := at_cell Y2.out KU.out E5.out
  go_wp2_with fail
  refine (fodOK _ _ _ _ _ _ (K4.out.keep Y2.out)).mono ?_
  rintro e v2 ⟨rfl, hs⟩
  have Y3 := Lib.hid (Y2.out.go hs)
  clear hs Y2
  clear c0 c1 c2 c3 c4 c5
  have c0 := at_cell Y3.out KU.out E0.out
  have c1 := at_cell Y3.out KU.out E1.out
  have c2 := at_cell Y3.out KU.out E2.out
  have c3 := at_cell Y3.out KU.out E3.out
  have c4 := at_cell Y3.out KU.out E4.out
  have c5 := at_cell Y3.out KU.out E5.out
  go_wp2_with fail
  go_quiet ((go_at_call 42; exact open_q _ _ _ _))
  generalize hq : World.drewN _ _ = q3
  have Y4 := Lib.hid (show Own w6 q3 by rw [← hq]; exact below_drewN Y3.out _)
  clear hq Y3
  clear c0 c1 c2 c3 c4 c5
  have c0 := at_cell Y4.out KU.out E0.out
  have c1 := at_cell Y4.out KU.out E1.out
  have c2 := at_cell Y4.out KU.out E2.out
  have c3 := at_cell Y4.out KU.out E3.out
  have c4 := at_cell Y4.out KU.out E4.out
  have c5 := at_cell Y4.out KU.out E5.out
  go_wp2
  go_ret
  exact ⟨rfl, SW.out.go Y4.out⟩
set_option maxRecDepth 100000 in
set_option maxHeartbeats 8000000 in
theorem law41 (x0 : ByteArray) (w : World) : Calls Try.prog 4 #[.bool true, .string x0] w fun e w' => e = .returned (.bool true) ∧ Below w.heap.size w w' := by
  go_enter Try.func4, Try.ntmps4
  go_wp2_with fail
  refine (bytes16_any _ _ _ ).mono ?_
  rintro e w' ⟨bb, rfl, rfl⟩
  cases bb
  · go_wp2
    go_ret
    exact ⟨rfl, Below.refl _ _⟩
  by_cases h0 : x0.size ≤ 65536
  rotate_left
  · go_wp2
    go_ret
    exact ⟨rfl, Below.refl _ _⟩
  go_wp2_with fail
  refine (lit_mk _ _ _ _ _).mono ?_
  rintro e u1 ⟨rfl, hs, hl⟩
  have S1 := Lib.hid (hs)
  clear hs hl
  go_wp2_with fail
  refine (lit_mk _ _ _ _ _).mono ?_
  rintro e u2 ⟨rfl, hs, hl⟩
  have S2 := Lib.hid (S1.out.go hs)
  clear hs hl S1
  go_wp2_with fail
  refine (lit_mk _ _ _ _ _).mono ?_
  rintro e w2 ⟨rfl, hs, hl⟩
  have S3 := Lib.hid (S2.out.go hs)
  clear hs hl S2
  clear h0
  go_wp2_with (first | (go_at_call 12; refine (fod_mk _ _ _ _ _).mono ?_; rintro e w' ⟨rfl, rfl⟩))
  generalize hW : World.alloc _ _ = W1
  have OW := Lib.hid (show Own w2 W1 by rw [← hW]; repeat (first | exact Own.refl _ | refine Own.al ?_ _))
  obtain ⟨cu, hU, e0, e1, e2, e3, e4, e5⟩ : ∃ cu, W1.heap[w2.heap.size]? = some (.cells cu 63 (0, 0)) ∧ cu[0]? = some (.iface 23 (.pointer (some ⟨w.heap.size, 0, none⟩))) ∧ cu[1]? = some (.iface 23 (.pointer (some ⟨u1.heap.size, 0, none⟩))) ∧ cu[2]? = some (.iface 23 (.pointer (some ⟨u2.heap.size, 0, none⟩))) ∧ cu[3]? = some (.slice (some ⟨w2.heap.size + 1 + 1 + 1 + 1 + 1 + 1, 0, none⟩) 1 1) ∧ cu[4]? = some (.slice (some ⟨w2.heap.size + 1 + 1 + 1 + 1 + 1 + 1 + 1 + 1 + 1, 0, none⟩) 1 1) ∧ cu[5]? = some (.slice (some ⟨w2.heap.size + 1 + 1 + 1, 0, none⟩) 1 1) := by
    rw [← hW]
    exact ⟨_, at_old (at_old (at_old (at_old (at_old (at_old (at_old (at_old (at_old (at_old (at_new rfl)))))))))), rfl, rfl, rfl, rfl, rfl, rfl⟩
  have hR : W1.heap[w2.heap.size + 1 + 1 + 1 + 1 + 1 + 1 + 1 + 1 + 1 + 1]? = some (.cells #[.slice none 0 0, .slice none 0 0, .slice none 0 0] 51 (0, 0)) := by
    rw [← hW]
    repeat (first | exact at_new (by simp) | refine at_old ?_)
  have hz : W1.heap.size = w2.heap.size + 1 + 1 + 1 + 1 + 1 + 1 + 1 + 1 + 1 + 1 + 1 := by rw [← hW]; simp
  have F5 := Lib.hid (show FodIs W1 (.slice (some ⟨w2.heap.size + 1 + 1 + 1, 0, none⟩) 1 1) 0 1 0 x0 by
    rw [← hW]
    refine ⟨w2.heap.size + 1 + 1 + 1, w2.heap.size + 1, rfl, ?_, ?_⟩
    all_goals repeat (first | (refine at_new ?_; (simp; done)) | refine at_old ?_))
  have F3 := Lib.hid (show FodIs W1 (.slice (some ⟨w2.heap.size + 1 + 1 + 1 + 1 + 1 + 1, 0, none⟩) 1 1) 0 2 0 x0 by
    rw [← hW]
    refine ⟨w2.heap.size + 1 + 1 + 1 + 1 + 1 + 1, w2.heap.size + 1 + 1 + 1 + 1, rfl, ?_, ?_⟩
    all_goals repeat (first | (refine at_new ?_; (simp; done)) | refine at_old ?_))
  have F4 := Lib.hid (show FodIs W1 (.slice (some ⟨w2.heap.size + 1 + 1 + 1 + 1 + 1 + 1 + 1 + 1 + 1, 0, none⟩) 1 1) 0 3 0 x0 by
    rw [← hW]
    refine ⟨w2.heap.size + 1 + 1 + 1 + 1 + 1 + 1 + 1 + 1 + 1, w2.heap.size + 1 + 1 + 1 + 1 + 1 + 1 + 1, rfl, ?_, ?_⟩
    all_goals repeat (first | (refine at_new ?_; (simp; done)) | refine at_old ?_))
  clear hW
  have HU := Lib.hid hU
  have HR := Lib.hid hR
  have HZ := Lib.hid hz
  clear hz hU
  have fr0 : W1.frozen? ⟨w2.heap.size + 1 + 1 + 1 + 1 + 1 + 1 + 1 + 1 + 1 + 1, 0, none⟩ = false := by simp [World.frozen?, hR]
  have fc0 : W1.cell? ⟨w2.heap.size + 1 + 1 + 1 + 1 + 1 + 1 + 1 + 1 + 1 + 1, 0, none⟩ = some (.slice none 0 0) := cell_of hR rfl
  have bl := lt_of_at hR
  clear hR
  have E0 := Lib.hid e0
  have E1 := Lib.hid e1
  have E2 := Lib.hid e2
  have E3 := Lib.hid e3
  have E4 := Lib.hid e4
  have E5 := Lib.hid e5
  clear e0 e1 e2 e3 e4 e5
  go_region
  generalize hW : World.drew _ = W2
  have Q2 := Lib.hid (show Frm W1 W2 (w2.heap.size + 1 + 1 + 1 + 1 + 1 + 1 + 1 + 1 + 1 + 1) by rw [← hW]; exact frm_store _ _ _ _ _)
  have G2 := Lib.hid (show W2.heap[W1.heap.size]? = some (.cells (ptrs w2.heap.size [0, 1, 2]) 52 (0, 0)) by rw [← hW]; exact at_store_new _ _ _ _ _)
  have R2 := Lib.hid (show W2.heap[w2.heap.size + 1 + 1 + 1 + 1 + 1 + 1 + 1 + 1 + 1 + 1]? = some (.cells #[slv W1.heap.size 3, .slice none 0 0, .slice none 0 0] 51 (0, 0)) by rw [← hW]; exact at_store HR.out)
  have Z2 := Lib.hid (show W2.heap.size = W1.heap.size + 1 by rw [← hW]; exact size_store _ _ _ _ _)
  clear hW fr0 fc0 bl
  have bl := lt_of_at R2.out
  have fr0 : W2.frozen? ⟨w2.heap.size + 1 + 1 + 1 + 1 + 1 + 1 + 1 + 1 + 1 + 1, 1, none⟩ = false := by simp [World.frozen?, R2.out]
  have fc0 : W2.cell? ⟨w2.heap.size + 1 + 1 + 1 + 1 + 1 + 1 + 1 + 1 + 1 + 1, 1, none⟩ = some (.slice none 0 0) := cell_of R2.out rfl
  go_wp2_with fail
  go_region
  generalize hW : World.drew _ = W0
  have x1 := Lib.hid (show Frm W2 W0 (w2.heap.size + 1 + 1 + 1 + 1 + 1 + 1 + 1 + 1 + 1 + 1) by rw [← hW]; exact frm_store _ _ _ _ _)
  have x2 := Lib.hid (show W0.heap[W2.heap.size]? = some (.cells (ptrs w2.heap.size [3, 4, 5]) 53 (0, 0)) by rw [← hW]; exact at_store_new _ _ _ _ _)
  have x3 := Lib.hid (show W0.heap[w2.heap.size + 1 + 1 + 1 + 1 + 1 + 1 + 1 + 1 + 1 + 1]? = some (.cells #[slv W1.heap.size 3, slv W2.heap.size 3, .slice none 0 0] 51 (0, 0)) by rw [← hW]; exact at_store R2.out)
  clear hW fr0 fc0 bl
  go_wp2_with fail
  generalize hw0 : World.alloc _ _ = W3
  have Q3 := Lib.hid (show Frm W1 W3 (w2.heap.size + 1 + 1 + 1 + 1 + 1 + 1 + 1 + 1 + 1 + 1) by rw [← hw0]; exact Q2.out.trans (x1.out.trans (((Own.refl _).al _).frm _)))
  have G3 := Lib.hid (show W3.heap[W1.heap.size]? = some (.cells (ptrs w2.heap.size [0, 1, 2]) 52 (0, 0)) by rw [← hw0]; exact at_old (x1.out.at G2.out (by have := HZ.out; omega)))
  have H3 := Lib.hid (show W3.heap[W2.heap.size]? = some (.cells (ptrs w2.heap.size [3, 4, 5]) 53 (0, 0)) by rw [← hw0]; exact at_old x2.out)
  have R3 := Lib.hid (show W3.heap[w2.heap.size + 1 + 1 + 1 + 1 + 1 + 1 + 1 + 1 + 1 + 1]? = some (.cells #[slv W1.heap.size 3, slv W2.heap.size 3, .slice none 0 0] 51 (0, 0)) by rw [← hw0]; exact at_old x3.out)
  clear hw0 x1 x2 x3 G2 R2 Q2
  have CC := Lib.hid (show Ctx W3 (w2.heap.size + 1 + 1 + 1 + 1 + 1 + 1 + 1 + 1 + 1 + 1) w2.heap.size 63 W1.heap.size W2.heap.size cu [0, 1, 2] [3, 4, 5] from ⟨by have := HZ.out; omega, by have := HZ.out; have := Z2.out; omega, by omega, G3.out, H3.out, Q3.out.at HU.out (by omega)⟩)
  clear G3 H3
  refine (conditionalR1 CC.out (RecSt.start R3.out) _ _ E2.out _ _).mono ?_
  rintro e w5 ⟨rfl, hs⟩
  have RS := Lib.hid hs
  obtain ⟨gg, cap, hcap, hgl, hlog, hints⟩ := hs.ints (by simp)
  have HI := Lib.hid hints
  have HG := Lib.hid hgl
  clear hs CC R3 hints hgl
  simp only [List.length_cons, List.length_nil, Nat.zero_add, Nat.reduceAdd] at hlog hcap
  go_wp2_with fail
  refine (eq_any _ _ _ 5 _ _ [0, 10, 1, 11, 2] rfl (by omega) (HI.out.own HG.out ((Own.refl _).al _)) (by
    intro k hk
    simp only [List.length_cons, List.length_nil, Nat.zero_add, Nat.reduceAdd] at hk
    refine cell_of (heap_alloc_new w5 _) ?_
    rcases k with _ | _ | _ | _ | _ | k
    all_goals first | rfl | omega)).mono ?_
  rintro e w6 ⟨rfl, hs⟩
  have Q6 := Lib.hid (Q3.out.trans (RS.out.frm.trans ((((Own.refl w5).al _).go hs).frm _)))
  clear hs hlog hcap HI HG RS Q3
  have KU := Lib.hid (Q6.out.at HU.out (by omega))
  have SW := Lib.hid (Frm.below (S3.out.go OW.out) Q6.out (by have := S3.out.size; omega))
  have K5 := Lib.hid (F5.out.frm Q6.out HR.out)
  have K3 := Lib.hid (F3.out.frm Q6.out HR.out)
  have K4 := Lib.hid (F4.out.frm Q6.out HR.out)
  clear S3 OW Q6 HU HR F5 F3 F4
  have Y0 := Lib.hid (Own.refl w6)
  have m1 := mo_Conditional w2.heap.size
  have ml0 := mo_LiteralNumber w.heap.size
  have ml1 := mo_LiteralNumber u1.heap.size
  have ml2 := mo_LiteralNumber u2.heap.size
  have pn := ptr53_neq
  have pe := ptr53_eql
  have c0 := at_cell Y0.out KU.out E0.out
  have c1 := at_cell Y0.out KU.out E1.out
  have c2 := at_cell Y0.out KU.out E2.out
  have c3 := at_cell Y0.out KU.out E3.out
  have c4 := at_cell Y0.out KU.out E4.out
  have c5 := at_cell Y0.out KU.out E5.out
  go_wp2_with fail
  refine (fodOK _ _ _ _ _ _ (K5.out.keep Y0.out)).mono ?_
  rintro e v0 ⟨rfl, hs⟩
  have Y1 := Lib.hid (Y0.out.go hs)
  clear hs Y0
  clear c0 c1 c2 c3 c4 c5
  have c0 := at_cell Y1.out KU.out E0.out
  have c1 := at_cell Y1.out KU.out E1.out
  have c2 := at_cell Y1.out KU.out E2.out
  have c3 := at_cell Y1.out KU.out E3.out
  have c4 := at_cell Y1.out KU.out E4.out
  have c5 := at_cell Y1.out KU.out E5.out
  go_wp2_with fail
  refine (fodOK _ _ _ _ _ _ (K3.out.keep Y1.out)).mono ?_
  rintro e v1 ⟨rfl, hs⟩
  have Y2 := Lib.hid (Y1.out.go hs)
  clear hs Y1
  clear c0 c1 c2 c3 c4 c5
  have c0 := at_cell Y2.out KU.out E0.out
  have c1 := at_cell Y2.out KU.out E1.out
  have c2 := at_cell Y2.out KU.out E2.out
  have c3 := at_cell Y2.out KU.out E3.out
  have c4 := at_cell Y2.out KU.out E4.out
  have c5 := at_cell Y2.out KU.out E5.out
  go_wp2_with fail
  refine (fodOK _ _ _ _ _ _ (K4.out.keep Y2.out)).mono ?_
  rintro e v2 ⟨rfl, hs⟩
  have Y3 := Lib.hid (Y2.out.go hs)
  clear hs Y2
  clear c0 c1 c2 c3 c4 c5
  have c0 := at_cell Y3.out KU.out E0.out
  have c1 := at_cell Y3.out KU.out E1.out
  have c2 := at_cell Y3.out KU.out E2.out
  have c3 := at_cell Y3.out KU.out E3.out
  have c4 := at_cell Y3.out KU.out E4.out
  have c5 := at_cell Y3.out KU.out E5.out
  go_wp2_with fail
  go_quiet ((go_at_call 42; exact open_q _ _ _ _))
  generalize hq : World.drewN _ _ = q3
  have Y4 := Lib.hid (show Own w6 q3 by rw [← hq]; exact below_drewN Y3.out _)
  clear hq Y3
  clear c0 c1 c2 c3 c4 c5
  have c0 := at_cell Y4.out KU.out E0.out
  have c1 := at_cell Y4.out KU.out E1.out
  have c2 := at_cell Y4.out KU.out E2.out
  have c3 := at_cell Y4.out KU.out E3.out
  have c4 := at_cell Y4.out KU.out E4.out
  have c5 := at_cell Y4.out KU.out E5.out
  go_wp2_with fail
  go_quiet ((go_at_call 42; exact open_q _ _ _ _))
  generalize hq : World.drewN _ _ = q4
  have Y5 := Lib.hid (show Own w6 q4 by rw [← hq]; exact below_drewN Y4.out _)
  clear hq Y4
  clear c0 c1 c2 c3 c4 c5
  go_wp2
  go_ret
  exact ⟨rfl, SW.out.go Y5.out⟩
end Go.Proofs.Ytekiepkopcpdbaa
