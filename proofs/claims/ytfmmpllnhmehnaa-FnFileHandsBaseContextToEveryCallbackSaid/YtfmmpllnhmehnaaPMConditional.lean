/- Base.Conditional under the abstract pass. -/
import Derived.Test.YtfmmpllnhmehnaaPBase
namespace Go.Proofs.Ytfmmpllnhmehnaa
open Go.RowKit
set_option maxRecDepth 100000 in
set_option maxHeartbeats 4000000 in
theorem conditionalP0 {TP B FEI : Nat} {ctx : Value} {St : World → List Int → Prop} (P : PassOK TP B FEI ctx St) (b : Value) (U : Nat) (cu : Array Value) (w : World) (xs y0 y1 y2 : List Int) (hU : w.heap[U]? = some (.cells cu 84 (0, 0))) (g : cu[2]? = some .nilIface) (hV0 : VisS TP B ctx St w ⟨U, 0, none⟩ y0) (hF3 : FodS TP B ctx St w ⟨U, 3, none⟩ y1) (hV1 : VisS TP B ctx St w ⟨U, 1, none⟩ y2) (hst : St w xs) (hb : Fits (xs ++ (y0 ++ (y1 ++ (y2))))) :
    Calls Try.prog 42 #[b, .iface TP (.pointer (some ⟨B, 0, none⟩)), .pointer (some ⟨U, 0, none⟩), ctx] w fun e w' => e = .returned (.tuple #[]) ∧ St w' (xs ++ (y0 ++ (y1 ++ (y2)))) ∧ Kept w w' := by
  have HP := Lib.hid P
  have S0 := Lib.hid hst
  have K0 := Lib.hid (Kept.refl w)
  have HU := Lib.hid hU
  have HB := Lib.hid hb
  have HV0 := Lib.hid hV0
  have HF3 := Lib.hid hF3
  have HV1 := Lib.hid hV1
  have G := Lib.hid g
  have c0 := cell_of hU g
  clear P hst hU hb hV0 hF3 hV1 g
  go_enter Try.func42, Try.ntmps42
  have n1 := HP.out.n_Visit (HP.out.dr S0.out)
  have m1 := HP.out.m_Visit (HP.out.dr S0.out)
  go_wp2_with fail
  go_region_with (first | (go_at_call 16; refine (HV0.out _ K0.out.drew _ _ (HP.out.dr S0.out) (HB.out.mono (by simp; try omega))).mono ?_; rintro e w1 ⟨rfl, hs, hk⟩))
  have S1 := Lib.hid hs
  have K1 := Lib.hid (K0.out.drew.go hk)
  clear hs hk S0 K0 n1 m1
  clear c0
  have c0 := cell_of (K1.out.at HU.out (by decide)) G.out
  have n1 := HP.out.n_Fodder (HP.out.dr S1.out)
  have m1 := HP.out.m_Fodder (HP.out.dr S1.out)
  go_wp2_with fail
  go_region_with (first | (go_at_call 45; refine (HF3.out _ K1.out.drew _ _ (HP.out.dr S1.out) (HB.out.mono (by simp; try omega))).mono ?_; rintro e w2 ⟨rfl, hs, hk⟩))
  have S2 := Lib.hid hs
  have K2 := Lib.hid (K1.out.drew.go hk)
  clear hs hk S1 K1 n1 m1
  clear c0
  have c0 := cell_of (K2.out.at HU.out (by decide)) G.out
  have n1 := HP.out.n_Visit (HP.out.dr S2.out)
  have m1 := HP.out.m_Visit (HP.out.dr S2.out)
  go_wp2_with fail
  go_region_with (first | (go_at_call 16; refine (HV1.out _ K2.out.drew _ _ (HP.out.dr S2.out) (HB.out.mono (by simp; try omega))).mono ?_; rintro e w3 ⟨rfl, hs, hk⟩))
  have S3 := Lib.hid hs
  have K3 := Lib.hid (K2.out.drew.go hk)
  clear hs hk S2 K2 n1 m1
  clear c0
  have c0 := cell_of (K3.out.at HU.out (by decide)) G.out
  go_wp2
  go_end0
  exact ⟨rfl, by simpa only [List.append_assoc] using S3.out, K3.out⟩
set_option maxRecDepth 100000 in
set_option maxHeartbeats 4000000 in
theorem conditionalP1 {TP B FEI : Nat} {ctx : Value} {St : World → List Int → Prop} (P : PassOK TP B FEI ctx St) (b : Value) (U : Nat) (cu : Array Value) (w : World) (xs y0 y1 y2 y3 y4 : List Int) (hU : w.heap[U]? = some (.cells cu 84 (0, 0))) (tg : Nat) (vg : Value) (g : cu[2]? = some (.iface tg vg)) (hV0 : VisS TP B ctx St w ⟨U, 0, none⟩ y0) (hF3 : FodS TP B ctx St w ⟨U, 3, none⟩ y1) (hV1 : VisS TP B ctx St w ⟨U, 1, none⟩ y2) (hF4 : FodS TP B ctx St w ⟨U, 4, none⟩ y3) (hV2 : VisS TP B ctx St w ⟨U, 2, none⟩ y4) (hst : St w xs) (hb : Fits (xs ++ (y0 ++ (y1 ++ (y2 ++ (y3 ++ (y4))))))) :
    Calls Try.prog 42 #[b, .iface TP (.pointer (some ⟨B, 0, none⟩)), .pointer (some ⟨U, 0, none⟩), ctx] w fun e w' => e = .returned (.tuple #[]) ∧ St w' (xs ++ (y0 ++ (y1 ++ (y2 ++ (y3 ++ (y4)))))) ∧ Kept w w' := by
  have HP := Lib.hid P
  have S0 := Lib.hid hst
  have K0 := Lib.hid (Kept.refl w)
  have HU := Lib.hid hU
  have HB := Lib.hid hb
  have HV0 := Lib.hid hV0
  have HF3 := Lib.hid hF3
  have HV1 := Lib.hid hV1
  have HF4 := Lib.hid hF4
  have HV2 := Lib.hid hV2
  have G := Lib.hid g
  have c0 := cell_of hU g
  clear P hst hU hb hV0 hF3 hV1 hF4 hV2 g
  go_enter Try.func42, Try.ntmps42
  have n1 := HP.out.n_Visit (HP.out.dr S0.out)
  have m1 := HP.out.m_Visit (HP.out.dr S0.out)
  go_wp2_with fail
  go_region_with (first | (go_at_call 16; refine (HV0.out _ K0.out.drew _ _ (HP.out.dr S0.out) (HB.out.mono (by simp; try omega))).mono ?_; rintro e w1 ⟨rfl, hs, hk⟩))
  have S1 := Lib.hid hs
  have K1 := Lib.hid (K0.out.drew.go hk)
  clear hs hk S0 K0 n1 m1
  clear c0
  have c0 := cell_of (K1.out.at HU.out (by decide)) G.out
  have n1 := HP.out.n_Fodder (HP.out.dr S1.out)
  have m1 := HP.out.m_Fodder (HP.out.dr S1.out)
  go_wp2_with fail
  go_region_with (first | (go_at_call 45; refine (HF3.out _ K1.out.drew _ _ (HP.out.dr S1.out) (HB.out.mono (by simp; try omega))).mono ?_; rintro e w2 ⟨rfl, hs, hk⟩))
  have S2 := Lib.hid hs
  have K2 := Lib.hid (K1.out.drew.go hk)
  clear hs hk S1 K1 n1 m1
  clear c0
  have c0 := cell_of (K2.out.at HU.out (by decide)) G.out
  have n1 := HP.out.n_Visit (HP.out.dr S2.out)
  have m1 := HP.out.m_Visit (HP.out.dr S2.out)
  go_wp2_with fail
  go_region_with (first | (go_at_call 16; refine (HV1.out _ K2.out.drew _ _ (HP.out.dr S2.out) (HB.out.mono (by simp; try omega))).mono ?_; rintro e w3 ⟨rfl, hs, hk⟩))
  have S3 := Lib.hid hs
  have K3 := Lib.hid (K2.out.drew.go hk)
  clear hs hk S2 K2 n1 m1
  clear c0
  have c0 := cell_of (K3.out.at HU.out (by decide)) G.out
  have n1 := HP.out.n_Fodder (HP.out.dr S3.out)
  have m1 := HP.out.m_Fodder (HP.out.dr S3.out)
  go_wp2_with fail
  go_region_with (first | (go_at_call 45; refine (HF4.out _ K3.out.drew _ _ (HP.out.dr S3.out) (HB.out.mono (by simp; try omega))).mono ?_; rintro e w4 ⟨rfl, hs, hk⟩))
  have S4 := Lib.hid hs
  have K4 := Lib.hid (K3.out.drew.go hk)
  clear hs hk S3 K3 n1 m1
  clear c0
  have c0 := cell_of (K4.out.at HU.out (by decide)) G.out
  have n1 := HP.out.n_Visit (HP.out.dr S4.out)
  have m1 := HP.out.m_Visit (HP.out.dr S4.out)
  go_wp2_with fail
  go_region_with (first | (go_at_call 16; refine (HV2.out _ K4.out.drew _ _ (HP.out.dr S4.out) (HB.out.mono (by simp; try omega))).mono ?_; rintro e w5 ⟨rfl, hs, hk⟩))
  have S5 := Lib.hid hs
  have K5 := Lib.hid (K4.out.drew.go hk)
  clear hs hk S4 K4 n1 m1
  clear c0
  have c0 := cell_of (K5.out.at HU.out (by decide)) G.out
  go_wp2
  go_end0
  exact ⟨rfl, by simpa only [List.append_assoc] using S5.out, K5.out⟩
end Go.Proofs.Ytfmmpllnhmehnaa
