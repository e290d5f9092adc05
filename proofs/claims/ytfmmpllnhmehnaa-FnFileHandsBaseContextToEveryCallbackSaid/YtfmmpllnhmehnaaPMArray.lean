/- Base.Array under the abstract pass. -/
import Derived.Test.YtfmmpllnhmehnaaPBase
namespace Go.Proofs.Ytfmmpllnhmehnaa
open Go.RowKit
/-- The tags of the first k elements. -/
def flatE (es cs : Nat → List Int) (k : Nat) : List Int := (List.range k).flatMap fun i => es i ++ cs i
theorem flatE_succ (es cs : Nat → List Int) (k : Nat) : flatE es cs (k + 1) = flatE es cs k ++ (es k ++ cs k) := by simp [flatE, List.range_succ]
theorem flatE_mono (es cs : Nat → List Int) {k n : Nat} (h : k < n) : (flatE es cs k).length + (es k).length + (cs k).length ≤ (flatE es cs n).length := by
  induction n with
  | zero => omega
  | succ n ih =>
    rw [flatE_succ]
    simp only [List.length_append]
    by_cases hk : k < n
    · have := ih hk
      omega
    · have : k = n := by omega
      subst this
      omega
set_option maxRecDepth 100000 in
set_option maxHeartbeats 4000000 in
theorem arrayP {TP B FEI : Nat} {ctx : Value} {St : World → List Int → Prop} (P : PassOK TP B FEI ctx St) (b : Value) (U g n cap : Nat) (cu : Array Value) (w : World) (xs zs : List Int) (es cs : Nat → List Int) (hn : n ≤ 8)
    (hU : w.heap[U]? = some (.cells cu 90 (0, 0))) (hs : cu[0]? = some (.slice (some ⟨g, 0, none⟩) n cap))
    (hE : ∀ i, i < n → VisS TP B ctx St w ⟨g, i * 2, none⟩ (es i)) (hD : ∀ i, i < n → FodS TP B ctx St w ⟨g, i * 2 + 1, none⟩ (cs i)) (hF : FodS TP B ctx St w ⟨U, 1, none⟩ zs) (hst : St w xs) (hb : Fits (xs ++ (flatE es cs n ++ zs))) :
    Calls Try.prog 38 #[b, .iface TP (.pointer (some ⟨B, 0, none⟩)), .pointer (some ⟨U, 0, none⟩), ctx] w fun e w' => e = .returned (.tuple #[]) ∧ St w' (xs ++ (flatE es cs n ++ zs)) ∧ Kept w w' := by
  have HP := Lib.hid P
  have HS := Lib.hid hst
  have HU := Lib.hid hU
  have HC := Lib.hid hs
  have HB := Lib.hid hb
  have HE := Lib.hid hE
  have HD := Lib.hid hD
  have HF := Lib.hid hF
  have HN := Lib.hid hn
  have c1 := cell_of hU hs
  clear P hst hU hs hb hE hD hF hn
  go_enter Try.func38, Try.ntmps38
  go_wp2
  clear c1
  go_loopw [14] (fun i wr => ∃ k : Nat, k ≤ n ∧ i = .int .i64 k ∧ Hid (St wr (xs ++ flatE es cs k)) ∧ Hid (Kept w wr)) (fun i _ => n - (intOf i).toNat)
  case atStart => exact ⟨0, Nat.zero_le _, rfl, Lib.hid (by simpa [flatE] using HS.out), Lib.hid (Kept.refl _)⟩
  case round =>
    obtain ⟨k, hk, rfl, hst, hkp⟩ := hrel
    by_cases hlt : k < n
    · have hn8 := HN.out
      have c1 := cell_of (hkp.out.at HU.out (by decide)) HC.out
      have VV := Lib.hid (HE.out k hlt)
      have DD := Lib.hid (HD.out k hlt)
      have F1 := Lib.hid (show Fits ((xs ++ flatE es cs k) ++ es k) from HB.out.mono (by have := flatE_mono es cs hlt; simp only [List.length_append]; omega))
      have F2 := Lib.hid (show Fits (((xs ++ flatE es cs k) ++ es k) ++ cs k) from HB.out.mono (by have := flatE_mono es cs hlt; simp only [List.length_append]; omega))
      have n1 := HP.out.n_Visit (HP.out.dr hst.out)
      have m1 := HP.out.m_Visit (HP.out.dr hst.out)
      go_wp2_with fail
      go_region_with (first | (go_at_call 16; refine (VV.out _ hkp.out.drew _ _ (HP.out.dr hst.out) F1.out).mono ?_; rintro e w2 ⟨rfl, hs2, hk2⟩))
      all_goals
        have S2 := Lib.hid hs2
        have K2 := Lib.hid (hkp.out.drew.go hk2)
        clear hs2 hk2 n1 m1 c1 hst hkp VV F1
        have c1 := cell_of (K2.out.at HU.out (by decide)) HC.out
        have n1 := HP.out.n_Fodder (HP.out.dr S2.out)
        have m1 := HP.out.m_Fodder (HP.out.dr S2.out)
        go_wp2_with fail
        go_region_with (first | (go_at_call 45; refine (DD.out _ K2.out.drew _ _ (HP.out.dr S2.out) F2.out).mono ?_; rintro e w3 ⟨rfl, hs3, hk3⟩))
      all_goals
        have S3 := Lib.hid (show St w3 (xs ++ flatE es cs (k + 1)) by rw [flatE_succ]; simpa only [List.append_assoc] using hs3)
        have K3 := Lib.hid (K2.out.drew.go hk3)
        clear hs3 hk3 n1 m1 c1 S2 K2 DD F2
        go_wp2
        go_roundw
        case rel => exact ⟨k + 1, by omega, by go_num, S3, K3⟩
        case measure => first | (simp [intOf]; done) | (simp [intOf]; omega)
    · have hkn : k = n := by omega
      subst hkn
      have n1 := HP.out.n_Fodder (HP.out.dr hst.out)
      have m1 := HP.out.m_Fodder (HP.out.dr hst.out)
      have FF := Lib.hid (show Fits ((xs ++ flatE es cs k) ++ zs) by have := HB.out; rwa [List.append_assoc])
      go_wp2_with fail
      go_region_with (first | (go_at_call 45; refine (HF.out _ hkp.out.drew _ _ (HP.out.dr hst.out) FF.out).mono ?_; rintro e w2 ⟨rfl, hs2, hk2⟩))
      all_goals
        have S2 := Lib.hid hs2
        have K2 := Lib.hid (hkp.out.drew.go hk2)
        clear hs2 hk2 n1 m1 hst hkp
        go_wp2
        go_end0
        exact ⟨rfl, by simpa only [List.append_assoc] using S2.out, K2.out⟩
end Go.Proofs.Ytfmmpllnhmehnaa
