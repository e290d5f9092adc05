/- The builder's node at code 3. -/
import Derived.Test.YtfmmpllnhmehnaaNodeD
namespace Go.Proofs.Ytfmmpllnhmehnaa
open Go.RowKit
set_option maxRecDepth 100000 in
set_option maxHeartbeats 8000000 in
theorem node_op3 (N r : Nat) (ol fl : List Nat) (IH : NodeC N ol fl r) (hN : ol.length = N) (hN2 : N ≤ 4096) (hfl : fl.length ≤ 4096) (w : World) (K : Nat) (vo vf : Value) (pos slot next x : Nat) (hp : pos < N) (hr : N - pos ≤ r + 1) (hK : BK w K vo vf pos slot next) (ho : Bytes w vo ol) (hf : Bytes w vf fl) (hns : next ≤ 2 * slot) (hs : slot + 6 * (N - pos) + 1 ≤ 60000) (hx : ol[pos]? = some x) (hq : (x : Int) % 8 = 3) :
    Calls Try.prog 10 #[.pointer (some ⟨K, 0, none⟩)] w (NodePost w K vo vf N pos slot next) := by
  have HO := Lib.hid ho
  obtain ⟨O, cap, c, rfl, hO, hx2, hc⟩ := ho.some hx
  rw [hN] at HO hK ⊢
  have HI := Lib.hid IH
  have HK := Lib.hid hK
  have HF := Lib.hid hf
  have HL := Lib.hid hfl
  have HKl := Lib.hid (lt_of_at hK)
  have NS := Lib.hid hns
  have SS := Lib.hid hs
  have HP := Lib.hid hp
  have HR := Lib.hid hr
  unfold BK at hK
  have k0 := cell_of (k := 0) hK rfl
  have k1 := cell_of (k := 1) hK rfl
  have o1 := cell_of hO hc
  have kf : w.frozen? ⟨K, 1, none⟩ = false := by simp [World.frozen?, hK]
  clear IH hK ho hf hfl hns hs hN hr hO hc hx
  go_enter Try.func10, Try.ntmps10
  go_wp2_with fail
  go_quiet (fail)
  go_wp2_with fail
  go_quiet (fail)
  go_wp2_with fail
  generalize hW : World.setCell _ _ _ = W0
  have B0 : Hid (BK W0 K (.slice (some ⟨O, 0, none⟩) N cap) vf (pos + 1) slot next) := by
    rw [← hW]
    unfold BK
    exact (at_set (i := 1) HK.out).trans rfl
  have F0 : Hid (Frm w W0 K) := by rw [← hW]; exact ((Frm.refl w K).drewN _).set _ _
  clear hW k0 k1 kf o1 hp
  refine (fodder_any K slot next (pos + 1) _ vf fl W0 B0.out (HF.out.keep (F0.out.kept HK.out)) HL.out (by have := NS.out; have := SS.out; have := HP.out; have := HR.out; omega) (by have := NS.out; have := SS.out; have := HP.out; have := HR.out; omega)).mono ?_
  rintro e w1 ⟨fa1, fl1, fc1, n1, rfl, R1⟩
  replace R1 := Lib.hid R1
  have B1 := Lib.hid R1.out.bk
  have F1 := Lib.hid (F0.out.trans R1.out.frm)
  go_wp2_with fail
  refine (HI.out w1 K _ vf (pos + 1) (slot + 1) n1 (by have := NS.out; have := SS.out; have := HP.out; have := HR.out; have := R1.out.n0; have := R1.out.n1; omega) (by have := NS.out; have := SS.out; have := HP.out; have := HR.out; have := R1.out.n0; have := R1.out.n1; omega) B1.out (HO.out.keep (F1.out.kept HK.out)) (HF.out.keep (F1.out.kept HK.out)) (by have := NS.out; have := SS.out; have := HP.out; have := HR.out; have := R1.out.n0; have := R1.out.n1; omega) (by have := NS.out; have := SS.out; have := HP.out; have := HR.out; have := R1.out.n0; have := R1.out.n1; omega)).mono ?_
  rintro e w2 ⟨tg2, vg2, p2, s2, n2, rfl, R2⟩
  replace R2 := Lib.hid R2
  have B2 := Lib.hid R2.out.bk
  have F2 := Lib.hid (F1.out.trans R2.out.frm)
  go_wp2
  go_ret
  refine ⟨_, _, p2, s2, n2, rfl, F2.out.al _, at_old B2.out, by have := NS.out; have := SS.out; have := HP.out; have := HR.out; have := R1.out.n0; have := R1.out.n1; have := R2.out.n0; have := R2.out.n1; have := R2.out.s0; have := R2.out.s1; have := R2.out.p1; have := R2.out.p2; omega, by have := NS.out; have := SS.out; have := HP.out; have := HR.out; have := R1.out.n0; have := R1.out.n1; have := R2.out.n0; have := R2.out.n1; have := R2.out.s0; have := R2.out.s1; have := R2.out.p1; have := R2.out.p2; omega, by have := NS.out; have := SS.out; have := HP.out; have := HR.out; have := R1.out.n0; have := R1.out.n1; have := R2.out.n0; have := R2.out.n1; have := R2.out.s0; have := R2.out.s1; have := R2.out.p1; have := R2.out.p2; omega, by have := NS.out; have := SS.out; have := HP.out; have := HR.out; have := R1.out.n0; have := R1.out.n1; have := R2.out.n0; have := R2.out.n1; have := R2.out.s0; have := R2.out.s1; have := R2.out.p1; have := R2.out.p2; omega, by have := NS.out; have := SS.out; have := HP.out; have := HR.out; have := R1.out.n0; have := R1.out.n1; have := R2.out.n0; have := R2.out.n1; have := R2.out.s0; have := R2.out.s1; have := R2.out.p1; have := R2.out.p2; omega, by have := NS.out; have := SS.out; have := HP.out; have := HR.out; have := R1.out.n0; have := R1.out.n1; have := R2.out.n0; have := R2.out.n1; have := R2.out.s0; have := R2.out.s1; have := R2.out.p1; have := R2.out.p2; omega, ?_⟩
  have e : tags next (n1 - next) ++ (tags n1 (n2 - n1)) = tags next (n2 - next) := by
    rw [tags_join (a := next) (b := n1) (c := n2) (by have := NS.out; have := SS.out; have := HP.out; have := HR.out; have := R1.out.n0; have := R1.out.n1; have := R2.out.n0; have := R2.out.n1; have := R2.out.s0; have := R2.out.s1; have := R2.out.p1; have := R2.out.p2; omega) (by have := NS.out; have := SS.out; have := HP.out; have := HR.out; have := R1.out.n0; have := R1.out.n1; have := R2.out.n0; have := R2.out.n1; have := R2.out.s0; have := R2.out.s1; have := R2.out.p1; have := R2.out.p2; omega)]
  rw [← e]
  exact .unary (mask_at (at_new rfl) F2.out.size) rfl (R1.out.fod.keep (keepM (R2.out.frm.al _) (Nat.lt_of_lt_of_le HKl.out F0.out.size) F0.out.size)) rfl (Tr.keep (keepM ((Frm.refl w2 K).al _) (Nat.lt_of_lt_of_le HKl.out F1.out.size) F1.out.size) R2.out.tr)
end Go.Proofs.Ytfmmpllnhmehnaa
