/- The law of function 7, walked. -/
import Derived.Test.YtfmmpllnhmehnaaLawD
namespace Go.Proofs.Ytfmmpllnhmehnaa
open Go.RowKit
set_option maxRecDepth 100000 in
set_option maxHeartbeats 8000000 in
theorem law7 (a0 : Option Addr) (l0 c0 : Nat) (z0 : List Int) (a1 : Option Addr) (l1 c1 : Nat) (z1 : List Int) (x : Nat) (w : World) (h0 : IsRow8 w a0 l0 c0 z0) (h1 : IsRow8 w a1 l1 c1 z1) (hx : x < 256) :
    Calls Try.prog 7 #[.slice a0 l0 c0, .slice a1 l1 c1, .int .u8 (x : Int)] w fun e w' => e = .returned (.bool true) ∧ Below w.heap.size w w' := by
  have H0 := Lib.hid h0
  have H1 := Lib.hid h1
  have e0 : (l0 : Int) ≤ 9223372036854775807 := by have := h0.le; omega
  have e1 : (l1 : Int) ≤ 9223372036854775807 := by have := h1.le; omega
  clear h0 h1
  go_enter Try.func7, Try.ntmps7
  go_wp2_with fail
  refine (bytes18_any _ _ _ _ _ _ _ _ H0.out.le H1.out.le).mono ?_
  rintro e w' ⟨bb, rfl, rfl⟩
  cases bb
  · go_wp2
    go_ret
    exact ⟨rfl, Below.refl _ _⟩
  by_cases k0 : (l0 : Int) ≤ 4096
  rotate_left
  · go_wp2
    go_ret
    exact ⟨rfl, Below.refl _ _⟩
  by_cases k1 : (l1 : Int) ≤ 4096
  rotate_left
  · go_wp2
    go_ret
    exact ⟨rfl, Below.refl _ _⟩
  have K0 := Lib.hid (show l0 ≤ 4096 by omega)
  have K1 := Lib.hid (show l1 ≤ 4096 by omega)
  go_wp2_with fail
  refine (clone_any _ _ _ z0 _ H0.out K0.out).mono ?_
  rintro e wa ⟨fa0, fc0, rfl, hb0, by0, ln0⟩
  have O0 := Lib.hid hb0
  have Y0 := Lib.hid by0
  have L0 := Lib.hid ln0
  clear hb0 by0 ln0
  go_wp2_with fail
  refine (clone_any _ _ _ z1 _ (H1.out.keep O0.out) K1.out).mono ?_
  rintro e wb ⟨fa1, fc1, rfl, hb1, by1, ln1⟩
  have O1 := Lib.hid (O0.out.trans (hb1.mono O0.out.size))
  have Y1 := Lib.hid by1
  have L1 := Lib.hid ln1
  have KP := Lib.hid (show Kept wa wb from ⟨hb1.size, fun k c t hx _ => (hb1.block k (lt_of_at hx)).trans hx⟩)
  clear hb1 by1 ln1 k0 k1 e0 e1
  go_wp2_with fail
  generalize hW : World.alloc _ _ = W0
  have BK0 : Hid (BK W0 wb.heap.size (.slice fa0 l0 fc0) (.slice fa1 l1 fc1) 0 0 0) := by rw [← hW]; exact heap_alloc_new wb _
  have KW := Lib.hid (show Kept wb W0 by rw [← hW]; exact (Kept.refl wb).al _)
  have OW := Lib.hid (show Below w.heap.size w W0 by rw [← hW]; exact O1.out.alloc O1.out.size _)
  clear hW
  refine (node_any l0 (toNats z0 l0) (toNats z1 l1) L0.out K0.out (by rw [L1.out]; exact K1.out) l0 W0 wb.heap.size _ _ 0 0 0 (by omega) (by omega) BK0.out (Y0.out.keep (KP.out.go KW.out)) (Y1.out.keep KW.out) (by omega) (by have := K0.out; omega)).mono ?_
  rintro e w1 ⟨tg, vg, p, s, m1, rfl, R⟩
  replace R := Lib.hid R
  clear BK0 KP KW Y0 Y1 L0 L1 H0 H1
  have HX := Lib.hid hx
  go_wp2_with fail
  refine (fodderOf_any _ _ _ _ _ _ _ _ (at_old R.out.bk) (by have := R.out.n1; have := R.out.s1; have := R.out.p2; have := K0.out; omega) HX.out).mono ?_
  rintro e w2 ⟨ga, gl, gc, m2, rfl, Q⟩
  replace Q := Lib.hid Q
  have G0 := Lib.hid (stg_file OW.out O1.out.size K0.out R.out Q.out)
  have hKl := Lib.hid (show wb.heap.size < w2.heap.size from lt_of_at Q.out.bk)
  clear R Q OW
  have p1 := part39b w2
  go_wp2_with fail
  generalize hW : World.alloc _ _ = C0
  have G1 := Lib.hid (show Stg _ w C0 _ _ _ _ _ _ _ _ _ _ _ by rw [← hW]; exact G0.out.al _)
  have HB := Lib.hid (show C0.heap[w2.heap.size + 1]? = some (.cells #[.slice none 0 0, .int .i64 0] 39 (0, 0)) by rw [← hW]; exact at_new (by simp))
  have BG := Lib.hid (show w.heap.size ≤ w2.heap.size + 1 ∧ wb.heap.size ≠ w2.heap.size + 1 from ⟨by have := O1.out.size; have := hKl.out; omega, by have := hKl.out; omega⟩)
  clear hW G0 p1
  have p1 := run_partAt0_39 C0 (w2.heap.size + 1) _ HB.out
  refine (bc19_any _ _ _).mono ?_
  rintro e w' ⟨rfl, rfl⟩
  go_wp2_with fail
  clear p1
  refine (fileP (pass_rec C0 (w2.heap.size + 1)) 19 (fun h => mbc_rec h) cf19 (fun w => bc19_any _ _ w) _ _ _ C0 [] _ _ (visit_tr (pass_rec C0 (w2.heap.size + 1)) G1.out.tr G1.out.root (by decide) rfl) (fodS_of (pass_rec C0 (w2.heap.size + 1)) (G1.out.ff trivial).1 (by decide) rfl (G1.out.ff trivial).2) (RecSt.start rfl HB.out) G1.out.fitsF).mono ?_
  rintro e C1 ⟨rfl, hs, hk⟩
  have G2 := Lib.hid (G1.out.frm hs.frm hk BG.out.1 BG.out.2)
  have RS := Lib.hid (show RecSt 39 _ C0 (w2.heap.size + 1) C1 (tags 0 (m1 + (m2 - m1))) by rw [tags_add, Nat.zero_add]; simpa only [List.nil_append] using hs)
  clear hs hk BG G1 HB
  obtain ⟨sv, s0, s1, sc⟩ := RS.out.count
  have SC := Lib.hid sc
  have kb := G2.out.bk
  unfold BK at kb
  have k4 : C1.cell? ⟨wb.heap.size, 4, none⟩ = some (.int .i64 (((m1 + (m2 - m1)) : Nat) : Int)) := cell_of (k := 4) kb rfl
  have NB := Lib.hid (show ((((m1 + (m2 - m1)) : Nat) : Int)) ≤ 100000 by have := G2.out.nb; omega)
  clear sc kb RS
  generalize hnn : (((m1 + (m2 - m1)) : Nat)) = nn at s1 k4 SC NB
  go_wp2_with fail
  go_quiet ((go_at_call 13; exact isCount_q _ _ _ _ SC.out NB.out))
  generalize hq : World.drewN _ _ = C2
  have G3 := Lib.hid (show Stg _ w C2 _ _ _ _ _ _ _ _ _ _ _ by rw [← hq]; exact G2.out.drewN _)
  clear hq G2 s0 s1 k4 SC NB
  clear hnn
  have p1 := part49 C2
  go_wp2_with fail
  generalize hW : World.alloc _ _ = C3
  have G4 := Lib.hid (show Stg _ w C3 _ _ _ _ _ _ _ _ _ _ _ by rw [← hW]; exact G3.out.al _)
  have HB := Lib.hid (show C3.heap[C2.heap.size]? = some (.cells #[.slice none 0 0, .int .i64 0] 49 (0, 0)) by rw [← hW]; exact at_new rfl)
  have BG := Lib.hid (show w.heap.size ≤ C2.heap.size ∧ wb.heap.size ≠ C2.heap.size from ⟨G3.out.own.size, Nat.ne_of_lt (lt_of_at G3.out.bk)⟩)
  clear hW G3 p1
  refine (fileP (pass_ctx C3 (C2.heap.size) 47 (.pointer (some ⟨C2.heap.size, 0, none⟩))) 70 (fun _ => mbc_ctx _ _) cf70 (fun w => bc70_any _ _ w) _ _ _ C3 [] _ _ (visit_tr (pass_ctx C3 (C2.heap.size) 47 (.pointer (some ⟨C2.heap.size, 0, none⟩))) G4.out.tr G4.out.root (by decide) rfl) (fodS_of (pass_ctx C3 (C2.heap.size) 47 (.pointer (some ⟨C2.heap.size, 0, none⟩))) (G4.out.ff trivial).1 (by decide) rfl (G4.out.ff trivial).2) (RecSt.start rfl HB.out) G4.out.fitsF).mono ?_
  rintro e C4 ⟨rfl, hs, hk⟩
  have G5 := Lib.hid (G4.out.frm hs.frm hk BG.out.1 BG.out.2)
  have RS := Lib.hid (show RecSt 49 _ C3 (C2.heap.size) C4 (tags 0 (m1 + (m2 - m1))) by rw [tags_add, Nat.zero_add]; simpa only [List.nil_append] using hs)
  clear hs hk BG G4 HB
  obtain ⟨sv, s0, s1, sc⟩ := RS.out.count
  have SC := Lib.hid sc
  have kb := G5.out.bk
  unfold BK at kb
  have k4 : C4.cell? ⟨wb.heap.size, 4, none⟩ = some (.int .i64 (((m1 + (m2 - m1)) : Nat) : Int)) := cell_of (k := 4) kb rfl
  have NB := Lib.hid (show ((((m1 + (m2 - m1)) : Nat) : Int)) ≤ 100000 by have := G5.out.nb; omega)
  clear sc kb RS
  generalize hnn : (((m1 + (m2 - m1)) : Nat)) = nn at s1 k4 SC NB
  go_wp2_with fail
  go_quiet ((go_at_call 13; exact isCount_q _ _ _ _ SC.out NB.out))
  generalize hq : World.drewN _ _ = C5
  have G6 := Lib.hid (show Stg _ w C5 _ _ _ _ _ _ _ _ _ _ _ by rw [← hq]; exact G5.out.drewN _)
  clear hq G5 s0 s1 k4 SC NB
  go_wp2
  go_ret
  exact ⟨rfl, G6.out.own⟩
end Go.Proofs.Ytfmmpllnhmehnaa
