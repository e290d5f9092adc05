/- The builder's node at code 7 (a). -/
import Derived.Test.YtfmmpllnhmehnaaArr
import Derived.Deep.DeepMust
import Derived.Deep.AppendLies
namespace Go.Proofs.Ytfmmpllnhmehnaa
open Go.RowKit
set_option maxRecDepth 100000 in
set_option maxHeartbeats 8000000 in
theorem node_op7a (N r : Nat) (ol fl : List Nat) (hN : ol.length = N) (hN2 : N ≤ 4096) (hfl : fl.length ≤ 4096) (w : World) (K : Nat) (vo vf : Value) (pos slot next x : Nat) (hpN : pos + 1 = N) (hr : N - pos ≤ r + 1) (hK : BK w K vo vf pos slot next) (ho : Bytes w vo ol) (hf : Bytes w vf fl) (hns : next ≤ 2 * slot) (hs : slot + 6 * (N - pos) + 1 ≤ 60000) (hx : ol[pos]? = some x) (hq : (x : Int) % 8 = 7) :
    Calls Try.prog 10 #[.pointer (some ⟨K, 0, none⟩)] w (NodePost w K vo vf N pos slot next) := by
  have HO := Lib.hid ho
  have hp : pos < N := by omega
  obtain ⟨O, cap, c, rfl, hO, hx2, hc⟩ := ho.some hx
  rw [hN] at HO hK ⊢
  have HK := Lib.hid hK
  have HF := Lib.hid hf
  have HL := Lib.hid hfl
  have HKl := Lib.hid (lt_of_at hK)
  have NS := Lib.hid hns
  have SS := Lib.hid hs
  have HP := Lib.hid hpN
  have HR := Lib.hid hr
  have KO := Lib.hid hO
  unfold BK at hK
  have k0 := cell_of (k := 0) hK rfl
  have k1 := cell_of (k := 1) hK rfl
  have o1 := cell_of hO hc
  have kf : w.frozen? ⟨K, 1, none⟩ = false := by simp [World.frozen?, hK]
  clear hK ho hf hfl hns hs hN hr hO hc hx hpN
  go_enter Try.func10, Try.ntmps10
  go_wp2_with fail
  go_quiet (fail)
  go_wp2_with fail
  go_quiet (fail)
  go_wp2_with fail
  generalize hW : World.setCell _ _ _ = W0
  have B0 : Hid (BK W0 K (.slice (some ⟨O, 0, none⟩) N cap) vf (pos + 1) slot next) := by
    rw [← hW]
    unfold BK
    exact (at_set (i := 1) HK.out).trans rfl
  have F0 : Hid (Frm w W0 K) := by rw [← hW]; exact ((Frm.refl w K).drewN _).set _ _
  clear hW k0 k1 kf o1 hp
  refine (fodder_any K slot next (pos + 1) _ vf fl W0 B0.out (HF.out.keep (F0.out.kept HK.out)) HL.out (by have := SS.out; omega) (by have := SS.out; have := NS.out; omega)).mono ?_
  rintro e w1 ⟨fa1, fl1, fc1, n1, rfl, R1⟩
  replace R1 := Lib.hid R1
  have F1 := Lib.hid (F0.out.trans R1.out.frm)
  have B1 := Lib.hid R1.out.bk
  have HKl1 := Lib.hid (Nat.lt_of_lt_of_le HKl.out F1.out.size)
  have hb1 := B1.out
  unfold BK at hb1
  have k0 := cell_of (k := 0) hb1 rfl
  have k1 : w1.cell? ⟨K, 1, none⟩ = some (.int .i64 ((pos : Int) + 1)) := cell_of (k := 1) hb1 rfl
  have kf : w1.frozen? ⟨K, 1, none⟩ = false := by simp [World.frozen?, hb1]
  clear hb1
  have hpz : ((pos : Int) + 1) = (N : Int) := by have := HP.out; omega
  have hlt : ¬ ((pos : Int) + 1 < (N : Int)) := by omega
  have mk : ∀ w : World, (Instr.makeSlice 85 (.int .i64 0) (.int .i64 0)).run Try.prog w = .ok (.slice (some ⟨w.heap.size, 0, none⟩) 0 0) (w.alloc (.cells (madeCells az (0 * 2)) 87)) := fun w => mk85 0 (by omega) w
  clear hpz
  go_wp2_with fail
  go_quiet (fail)
  go_wp2_with fail
  generalize hW : World.alloc _ _ = W3
  have AE : Hid (ArrEx w1 W3 K 0 0 (.slice (some ⟨O, 0, none⟩) N cap) vf N (pos + 1) (slot + 1) n1) := by
    rw [← hW]
    exact ArrSt.start (m := 0) ((Frm.refl w1 K).drewN _) rfl HKl1.out B1.out (by have := HP.out; omega) (by omega)
  clear hW k0 k1 kf mk hlt hq
  go_loopw [20, 21] (fun v i wr => ∃ k : Nat, k ≤ 0 ∧ v = .slice (some ⟨w1.heap.size, 0, none⟩) k 0 ∧ i = .int .i64 k ∧ Hid (ArrEx w1 wr K 0 k (.slice (some ⟨O, 0, none⟩) N cap) vf N (pos + 1) (slot + 1) n1)) (fun _ i _ => 0 - (intOf i).toNat)
  case atStart => exact ⟨0, Nat.zero_le _, rfl, rfl, AE⟩
  case round =>
    obtain ⟨k, hk, rfl, rfl, hE⟩ := hrel
    obtain ⟨p, s, n, ve, vd, es, cs, A⟩ := hE.out
    replace A := Lib.hid A
    clear hE
    have FA := Lib.hid (F1.out.trans A.out.frm)
    have hk0 : k = 0 := by omega
    subst hk0
    go_wp2_with fail
    refine (fodder_any K s n p _ vf fl _ A.out.bk (HF.out.keep (FA.out.kept HK.out)) HL.out (by have := NS.out; have := SS.out; have := HP.out; have := HR.out; have := R1.out.n0; have := R1.out.n1; have := A.out.p1; have := A.out.p2; have := A.out.s0; have := A.out.s1; have := A.out.n0; have := A.out.n1; omega) (by have := NS.out; have := SS.out; have := HP.out; have := HR.out; have := R1.out.n0; have := R1.out.n1; have := A.out.p1; have := A.out.p2; have := A.out.s0; have := A.out.s1; have := A.out.n0; have := A.out.n1; omega)).mono ?_
    rintro e w5 ⟨fa5, fl5, fc5, n5, rfl, Q⟩
    replace Q := Lib.hid Q
    have F5 := Lib.hid (FA.out.trans Q.out.frm)
    go_wp2
    go_ret
    refine ⟨_, _, p, s + 1, n5, rfl, F5.out.al _, at_old Q.out.bk, by have := NS.out; have := SS.out; have := HP.out; have := HR.out; have := R1.out.n0; have := R1.out.n1; have := A.out.p1; have := A.out.p2; have := A.out.s0; have := A.out.s1; have := A.out.n0; have := A.out.n1; have := Q.out.n0; have := Q.out.n1; omega, by have := NS.out; have := SS.out; have := HP.out; have := HR.out; have := R1.out.n0; have := R1.out.n1; have := A.out.p1; have := A.out.p2; have := A.out.s0; have := A.out.s1; have := A.out.n0; have := A.out.n1; have := Q.out.n0; have := Q.out.n1; omega, by have := NS.out; have := SS.out; have := HP.out; have := HR.out; have := R1.out.n0; have := R1.out.n1; have := A.out.p1; have := A.out.p2; have := A.out.s0; have := A.out.s1; have := A.out.n0; have := A.out.n1; have := Q.out.n0; have := Q.out.n1; omega, by have := NS.out; have := SS.out; have := HP.out; have := HR.out; have := R1.out.n0; have := R1.out.n1; have := A.out.p1; have := A.out.p2; have := A.out.s0; have := A.out.s1; have := A.out.n0; have := A.out.n1; have := Q.out.n0; have := Q.out.n1; omega, by have := NS.out; have := SS.out; have := HP.out; have := HR.out; have := R1.out.n0; have := R1.out.n1; have := A.out.p1; have := A.out.p2; have := A.out.s0; have := A.out.s1; have := A.out.n0; have := A.out.n1; have := Q.out.n0; have := Q.out.n1; omega, by have := NS.out; have := SS.out; have := HP.out; have := HR.out; have := R1.out.n0; have := R1.out.n1; have := A.out.p1; have := A.out.p2; have := A.out.s0; have := A.out.s1; have := A.out.n0; have := A.out.n1; have := Q.out.n0; have := Q.out.n1; omega, ?_⟩
    have e : tags next (n1 - next) ++ (flatE es cs 0 ++ tags n (n5 - n)) = tags next (n5 - next) := by
      rw [A.out.tg, tags_join (a := n1) (b := n) (c := n5) (by have := NS.out; have := SS.out; have := HP.out; have := HR.out; have := R1.out.n0; have := R1.out.n1; have := A.out.p1; have := A.out.p2; have := A.out.s0; have := A.out.s1; have := A.out.n0; have := A.out.n1; have := Q.out.n0; have := Q.out.n1; omega) (by have := NS.out; have := SS.out; have := HP.out; have := HR.out; have := R1.out.n0; have := R1.out.n1; have := A.out.p1; have := A.out.p2; have := A.out.s0; have := A.out.s1; have := A.out.n0; have := A.out.n1; have := Q.out.n0; have := Q.out.n1; omega), tags_join (a := next) (b := n1) (c := n5) (by have := NS.out; have := SS.out; have := HP.out; have := HR.out; have := R1.out.n0; have := R1.out.n1; have := A.out.p1; have := A.out.p2; have := A.out.s0; have := A.out.s1; have := A.out.n0; have := A.out.n1; have := Q.out.n0; have := Q.out.n1; omega) (by have := NS.out; have := SS.out; have := HP.out; have := HR.out; have := R1.out.n0; have := R1.out.n1; have := A.out.p1; have := A.out.p2; have := A.out.s0; have := A.out.s1; have := A.out.n0; have := A.out.n1; have := Q.out.n0; have := Q.out.n1; omega)]
    rw [← e]
    obtain ⟨ce, g1, g2, g3⟩ := A.out.read
    have hKw := HKl1.out
    have hF1s := F1.out.size
    have hF0s := F0.out.size
    have hF01 := R1.out.frm.size
    have hAs := A.out.sz
    have kA := fun o : Obj => keepM (lo := w1.heap.size + 1) (lo' := w.heap.size) (Q.out.frm.al o) (by omega) (by omega)
    exact .array (mask_at (at_new rfl) F5.out.size) rfl (R1.out.fod.keep (keepM ((A.out.frm.trans Q.out.frm).al _) (Nat.lt_of_lt_of_le HKl.out hF0s) hF0s)) rfl (by omega) (mask_at (at_old (Q.out.frm.at g1 (by omega))) hF1s) g2 g3 (fun i hi => Tr.keep (kA _) (A.out.tr i hi)) (fun i hi => (A.out.fd i hi).keep (kA _)) rfl (Q.out.fod.keep (keepM ((Frm.refl w5 K).al _) (by omega) (by omega)))
end Go.Proofs.Ytfmmpllnhmehnaa
