/- The builder's node at code 7 (b). -/
import Derived.Test.YtfmmpllnhmehnaaArr
import Derived.Deep.DeepMust
import Derived.Deep.AppendLies
namespace Go.Proofs.Ytfmmpllnhmehnaa
open Go.RowKit
set_option maxRecDepth 100000 in
set_option maxHeartbeats 8000000 in
theorem node_op7b (N r : Nat) (ol fl : List Nat) (IH : NodeC N ol fl r) (hN : ol.length = N) (hN2 : N ≤ 4096) (hfl : fl.length ≤ 4096) (w : World) (K : Nat) (vo vf : Value) (pos slot next x : Nat) (hpN : pos + 1 < N) (y m : Nat) (hy : ol[pos + 1]? = some y) (hq2 : (y : Int) % 3 = (m : Int)) (hm2 : m ≤ 2) (hr : N - pos ≤ r + 1) (hK : BK w K vo vf pos slot next) (ho : Bytes w vo ol) (hf : Bytes w vf fl) (hns : next ≤ 2 * slot) (hs : slot + 6 * (N - pos) + 1 ≤ 60000) (hx : ol[pos]? = some x) (hq : (x : Int) % 8 = 7) :
    Calls Try.prog 10 #[.pointer (some ⟨K, 0, none⟩)] w (NodePost w K vo vf N pos slot next) := by
  have HO := Lib.hid ho
  have hp : pos < N := by omega
  obtain ⟨O, cap, c, rfl, hO, hx2, hc⟩ := ho.some hx
  rw [hN] at HO hK ⊢
  have HI := Lib.hid IH
  have HY : Hid (y < 256 ∧ c[pos + 1]? = some (.int .u8 (y : Int))) := by
    obtain ⟨O', cap', c', h1, h2, h3, h4⟩ := ho.some hy
    injection h1 with h1
    injection h1 with h1
    injection h1 with h1
    subst h1
    rw [hO] at h2
    injection h2 with h2
    injection h2 with h2
    subst h2
    exact ⟨h3, h4⟩
  have HM := Lib.hid hm2
  have HQ2 := Lib.hid hq2
  clear hy hq2 hm2 IH
  have HK := Lib.hid hK
  have HF := Lib.hid hf
  have HL := Lib.hid hfl
  have HKl := Lib.hid (lt_of_at hK)
  have NS := Lib.hid hns
  have SS := Lib.hid hs
  have HP := Lib.hid hpN
  have HR := Lib.hid hr
  have KO := Lib.hid hO
  unfold BK at hK
  have k0 := cell_of (k := 0) hK rfl
  have k1 := cell_of (k := 1) hK rfl
  have o1 := cell_of hO hc
  have kf : w.frozen? ⟨K, 1, none⟩ = false := by simp [World.frozen?, hK]
  clear hK ho hf hfl hns hs hN hr hO hc hx hpN
  go_enter Try.func10, Try.ntmps10
  go_wp2_with fail
  go_quiet (fail)
  go_wp2_with fail
  go_quiet (fail)
  go_wp2_with fail
  generalize hW : World.setCell _ _ _ = W0
  have B0 : Hid (BK W0 K (.slice (some ⟨O, 0, none⟩) N cap) vf (pos + 1) slot next) := by
    rw [← hW]
    unfold BK
    exact (at_set (i := 1) HK.out).trans rfl
  have F0 : Hid (Frm w W0 K) := by rw [← hW]; exact ((Frm.refl w K).drewN _).set _ _
  clear hW k0 k1 kf o1 hp
  refine (fodder_any K slot next (pos + 1) _ vf fl W0 B0.out (HF.out.keep (F0.out.kept HK.out)) HL.out (by have := SS.out; omega) (by have := SS.out; have := NS.out; omega)).mono ?_
  rintro e w1 ⟨fa1, fl1, fc1, n1, rfl, R1⟩
  replace R1 := Lib.hid R1
  have F1 := Lib.hid (F0.out.trans R1.out.frm)
  have B1 := Lib.hid R1.out.bk
  have HKl1 := Lib.hid (Nat.lt_of_lt_of_le HKl.out F1.out.size)
  have hb1 := B1.out
  unfold BK at hb1
  have k0 := cell_of (k := 0) hb1 rfl
  have k1 : w1.cell? ⟨K, 1, none⟩ = some (.int .i64 ((pos : Int) + 1)) := cell_of (k := 1) hb1 rfl
  have kf : w1.frozen? ⟨K, 1, none⟩ = false := by simp [World.frozen?, hb1]
  clear hb1
  have o2 : w1.cell? ⟨O, pos + 1, none⟩ = some (.int .u8 (y : Int)) := cell_of ((F1.out.kept HK.out).at KO.out (by decide)) HY.out.2
  have hy2 := HY.out.1
  have hlt : (pos : Int) + 1 < (N : Int) := by have := HP.out; omega
  have hlt2 : pos + 1 < N := HP.out
  have mk := fun w => mk85 m (by have := HM.out; omega) w
  have hq2 := HQ2.out
  have hm2 := HM.out
  go_wp2_with fail
  go_quiet (fail)
  go_wp2_with fail
  go_quiet (fail)
  go_wp2_with fail
  generalize hW : World.alloc _ _ = W3
  have AE : Hid (ArrEx w1 W3 K m 0 (.slice (some ⟨O, 0, none⟩) N cap) vf N (pos + 2) (slot + 1) n1) := by
    rw [← hW]
    refine ArrSt.start (m := m) (((Frm.refl w1 K).drewN _).set _ _) (by rw [size_set]; rfl) HKl1.out ?_ (by have := HP.out; omega) (by have := HM.out; omega)
    unfold BK
    exact (at_set (i := 1) B1.out).trans (by simp [Int.add_assoc])
  clear hW k0 k1 kf mk hlt hlt2 o2 hq2 hy2 hm2 hq
  go_loopw [20, 21] (fun v i wr => ∃ k : Nat, k ≤ m ∧ v = .slice (some ⟨w1.heap.size, 0, none⟩) k m ∧ i = .int .i64 k ∧ Hid (ArrEx w1 wr K m k (.slice (some ⟨O, 0, none⟩) N cap) vf N (pos + 2) (slot + 1) n1)) (fun _ i _ => m - (intOf i).toNat)
  case atStart => exact ⟨0, Nat.zero_le _, rfl, rfl, AE⟩
  case round =>
    obtain ⟨k, hk, rfl, rfl, hE⟩ := hrel
    obtain ⟨p, s, n, ve, vd, es, cs, A⟩ := hE.out
    replace A := Lib.hid A
    clear hE
    have FA := Lib.hid (F1.out.trans A.out.frm)
    by_cases hlt : k < m
    · obtain ⟨i0, hi, hz0, hz1, hz2⟩ := info_parts info87
      have hm2 := HM.out
      go_wp2_with fail
      refine (HI.out _ K _ vf p s n (by have := NS.out; have := SS.out; have := HP.out; have := HR.out; have := R1.out.n0; have := R1.out.n1; have := A.out.p1; have := A.out.p2; have := A.out.s0; have := A.out.s1; have := A.out.n0; have := A.out.n1; have := HM.out; omega) (by have := NS.out; have := SS.out; have := HP.out; have := HR.out; have := R1.out.n0; have := R1.out.n1; have := A.out.p1; have := A.out.p2; have := A.out.s0; have := A.out.s1; have := A.out.n0; have := A.out.n1; have := HM.out; omega) A.out.bk (HO.out.keep (FA.out.kept HK.out)) (HF.out.keep (FA.out.kept HK.out)) (by have := NS.out; have := SS.out; have := HP.out; have := HR.out; have := R1.out.n0; have := R1.out.n1; have := A.out.p1; have := A.out.p2; have := A.out.s0; have := A.out.s1; have := A.out.n0; have := A.out.n1; have := HM.out; omega) (by have := NS.out; have := SS.out; have := HP.out; have := HR.out; have := R1.out.n0; have := R1.out.n1; have := A.out.p1; have := A.out.p2; have := A.out.s0; have := A.out.s1; have := A.out.n0; have := A.out.n1; have := HM.out; omega)).mono ?_
      rintro e w2 ⟨tg, vg, p', s', n', rfl, R⟩
      replace R := Lib.hid R
      go_wp2_with fail
      refine (fodder_any K s' n' p' _ vf fl w2 R.out.bk (HF.out.keep ((FA.out.trans R.out.frm).kept HK.out)) HL.out (by have := NS.out; have := SS.out; have := HP.out; have := HR.out; have := R1.out.n0; have := R1.out.n1; have := A.out.p1; have := A.out.p2; have := A.out.s0; have := A.out.s1; have := A.out.n0; have := A.out.n1; have := HM.out; have := R.out.s1; have := R.out.p1; have := R.out.p2; omega) (by have := NS.out; have := SS.out; have := HP.out; have := HR.out; have := R1.out.n0; have := R1.out.n1; have := A.out.p1; have := A.out.p2; have := A.out.s0; have := A.out.s1; have := A.out.n0; have := A.out.n1; have := HM.out; have := R.out.s0; have := R.out.s1; have := R.out.p1; have := R.out.p2; have := R.out.n1; omega)).mono ?_
      rintro e w3 ⟨fa, fl', fc, n'', rfl, Q⟩
      replace Q := Lib.hid Q
      have HLT := Lib.hid hlt
      go_wp2_with (at_builtin; go_must (refine wpList_append_fits _ rfl _ _ 85 rfl w1.heap.size 87 i0 2 Try.underlying85 hi hz1 w1.heap.size k m _ rfl (A.out.own R.out Q.out _) ⟨w3.heap.size, 0, none⟩ 1 1 [.iface tg vg, .slice fa fl' fc] rfl rfl (World.news_of_block (cs := #[.iface tg vg, .slice fa fl' fc]) (t := 87) (fr := (0, 0)) (heap_alloc_new w3 _)) (by simp [Value.oneCell']) (by have := HLT.out; omega) ?_; intro w4 hown hgr; have HS := Lib.hid (A.out.step R.out Q.out hown hgr); clear hown hgr))
      go_roundw
      case rel => exact ⟨k + 1, by omega, rfl, by go_num, HS⟩
      case measure => first | (simp [intOf]; done) | (simp [intOf]; omega)
    · have hkm : k = m := by omega
      subst hkm
      go_wp2_with fail
      refine (fodder_any K s n p _ vf fl _ A.out.bk (HF.out.keep (FA.out.kept HK.out)) HL.out (by have := NS.out; have := SS.out; have := HP.out; have := HR.out; have := R1.out.n0; have := R1.out.n1; have := A.out.p1; have := A.out.p2; have := A.out.s0; have := A.out.s1; have := A.out.n0; have := A.out.n1; have := HM.out; omega) (by have := NS.out; have := SS.out; have := HP.out; have := HR.out; have := R1.out.n0; have := R1.out.n1; have := A.out.p1; have := A.out.p2; have := A.out.s0; have := A.out.s1; have := A.out.n0; have := A.out.n1; have := HM.out; omega)).mono ?_
      rintro e w5 ⟨fa5, fl5, fc5, n5, rfl, Q⟩
      replace Q := Lib.hid Q
      have F5 := Lib.hid (FA.out.trans Q.out.frm)
      go_wp2
      go_ret
      refine ⟨_, _, p, s + 1, n5, rfl, F5.out.al _, at_old Q.out.bk, by have := NS.out; have := SS.out; have := HP.out; have := HR.out; have := R1.out.n0; have := R1.out.n1; have := A.out.p1; have := A.out.p2; have := A.out.s0; have := A.out.s1; have := A.out.n0; have := A.out.n1; have := HM.out; have := Q.out.n0; have := Q.out.n1; omega, by have := NS.out; have := SS.out; have := HP.out; have := HR.out; have := R1.out.n0; have := R1.out.n1; have := A.out.p1; have := A.out.p2; have := A.out.s0; have := A.out.s1; have := A.out.n0; have := A.out.n1; have := HM.out; have := Q.out.n0; have := Q.out.n1; omega, by have := NS.out; have := SS.out; have := HP.out; have := HR.out; have := R1.out.n0; have := R1.out.n1; have := A.out.p1; have := A.out.p2; have := A.out.s0; have := A.out.s1; have := A.out.n0; have := A.out.n1; have := HM.out; have := Q.out.n0; have := Q.out.n1; omega, by have := NS.out; have := SS.out; have := HP.out; have := HR.out; have := R1.out.n0; have := R1.out.n1; have := A.out.p1; have := A.out.p2; have := A.out.s0; have := A.out.s1; have := A.out.n0; have := A.out.n1; have := HM.out; have := Q.out.n0; have := Q.out.n1; omega, by have := NS.out; have := SS.out; have := HP.out; have := HR.out; have := R1.out.n0; have := R1.out.n1; have := A.out.p1; have := A.out.p2; have := A.out.s0; have := A.out.s1; have := A.out.n0; have := A.out.n1; have := HM.out; have := Q.out.n0; have := Q.out.n1; omega, by have := NS.out; have := SS.out; have := HP.out; have := HR.out; have := R1.out.n0; have := R1.out.n1; have := A.out.p1; have := A.out.p2; have := A.out.s0; have := A.out.s1; have := A.out.n0; have := A.out.n1; have := HM.out; have := Q.out.n0; have := Q.out.n1; omega, ?_⟩
      have e : tags next (n1 - next) ++ (flatE es cs k ++ tags n (n5 - n)) = tags next (n5 - next) := by
        rw [A.out.tg, tags_join (a := n1) (b := n) (c := n5) (by have := NS.out; have := SS.out; have := HP.out; have := HR.out; have := R1.out.n0; have := R1.out.n1; have := A.out.p1; have := A.out.p2; have := A.out.s0; have := A.out.s1; have := A.out.n0; have := A.out.n1; have := HM.out; have := Q.out.n0; have := Q.out.n1; omega) (by have := NS.out; have := SS.out; have := HP.out; have := HR.out; have := R1.out.n0; have := R1.out.n1; have := A.out.p1; have := A.out.p2; have := A.out.s0; have := A.out.s1; have := A.out.n0; have := A.out.n1; have := HM.out; have := Q.out.n0; have := Q.out.n1; omega), tags_join (a := next) (b := n1) (c := n5) (by have := NS.out; have := SS.out; have := HP.out; have := HR.out; have := R1.out.n0; have := R1.out.n1; have := A.out.p1; have := A.out.p2; have := A.out.s0; have := A.out.s1; have := A.out.n0; have := A.out.n1; have := HM.out; have := Q.out.n0; have := Q.out.n1; omega) (by have := NS.out; have := SS.out; have := HP.out; have := HR.out; have := R1.out.n0; have := R1.out.n1; have := A.out.p1; have := A.out.p2; have := A.out.s0; have := A.out.s1; have := A.out.n0; have := A.out.n1; have := HM.out; have := Q.out.n0; have := Q.out.n1; omega)]
      rw [← e]
      obtain ⟨ce, g1, g2, g3⟩ := A.out.read
      have hKw := HKl1.out
      have hF1s := F1.out.size
      have hF0s := F0.out.size
      have hF01 := R1.out.frm.size
      have hAs := A.out.sz
      have kA := fun o : Obj => keepM (lo := w1.heap.size + 1) (lo' := w.heap.size) (Q.out.frm.al o) (by omega) (by omega)
      exact .array (mask_at (at_new rfl) F5.out.size) rfl (R1.out.fod.keep (keepM ((A.out.frm.trans Q.out.frm).al _) (Nat.lt_of_lt_of_le HKl.out hF0s) hF0s)) rfl (by have := HM.out; omega) (mask_at (at_old (Q.out.frm.at g1 (by omega))) hF1s) g2 g3 (fun i hi => Tr.keep (kA _) (A.out.tr i hi)) (fun i hi => (A.out.fd i hi).keep (kA _)) rfl (Q.out.fod.keep (keepM ((Frm.refl w5 K).al _) (by omega) (by omega)))
end Go.Proofs.Ytfmmpllnhmehnaa
