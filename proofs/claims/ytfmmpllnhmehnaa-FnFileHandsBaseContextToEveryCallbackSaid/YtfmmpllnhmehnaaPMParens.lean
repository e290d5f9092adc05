/- Base.Parens under the abstract pass. -/
import Derived.Test.YtfmmpllnhmehnaaPBase
namespace Go.Proofs.Ytfmmpllnhmehnaa
open Go.RowKit
set_option maxRecDepth 100000 in
set_option maxHeartbeats 4000000 in
theorem parensP {TP B FEI : Nat} {ctx : Value} {St : World → List Int → Prop} (P : PassOK TP B FEI ctx St) (b : Value) (U : Nat) (cu : Array Value) (w : World) (xs y0 y1 : List Int) (hU : w.heap[U]? = some (.cells cu 81 (0, 0))) (hV0 : VisS TP B ctx St w ⟨U, 0, none⟩ y0) (hF1 : FodS TP B ctx St w ⟨U, 1, none⟩ y1) (hst : St w xs) (hb : Fits (xs ++ (y0 ++ (y1)))) :
    Calls Try.prog 59 #[b, .iface TP (.pointer (some ⟨B, 0, none⟩)), .pointer (some ⟨U, 0, none⟩), ctx] w fun e w' => e = .returned (.tuple #[]) ∧ St w' (xs ++ (y0 ++ (y1))) ∧ Kept w w' := by
  have HP := Lib.hid P
  have S0 := Lib.hid hst
  have K0 := Lib.hid (Kept.refl w)
  have HU := Lib.hid hU
  have HB := Lib.hid hb
  have HV0 := Lib.hid hV0
  have HF1 := Lib.hid hF1
  clear P hst hU hb hV0 hF1
  go_enter Try.func59, Try.ntmps59
  have n1 := HP.out.n_Visit (HP.out.dr S0.out)
  have m1 := HP.out.m_Visit (HP.out.dr S0.out)
  go_wp2_with fail
  go_region_with (first | (go_at_call 16; refine (HV0.out _ K0.out.drew _ _ (HP.out.dr S0.out) (HB.out.mono (by simp; try omega))).mono ?_; rintro e w1 ⟨rfl, hs, hk⟩))
  have S1 := Lib.hid hs
  have K1 := Lib.hid (K0.out.drew.go hk)
  clear hs hk S0 K0 n1 m1
  have n1 := HP.out.n_Fodder (HP.out.dr S1.out)
  have m1 := HP.out.m_Fodder (HP.out.dr S1.out)
  go_wp2_with fail
  go_region_with (first | (go_at_call 45; refine (HF1.out _ K1.out.drew _ _ (HP.out.dr S1.out) (HB.out.mono (by simp; try omega))).mono ?_; rintro e w2 ⟨rfl, hs, hk⟩))
  have S2 := Lib.hid hs
  have K2 := Lib.hid (K1.out.drew.go hk)
  clear hs hk S1 K1 n1 m1
  go_wp2
  go_end0
  exact ⟨rfl, by simpa only [List.append_assoc] using S2.out, K2.out⟩
end Go.Proofs.Ytfmmpllnhmehnaa
