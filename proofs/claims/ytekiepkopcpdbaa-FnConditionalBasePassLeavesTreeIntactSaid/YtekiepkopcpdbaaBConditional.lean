/- Base.Conditional by pass.Base itself: what was there stays. -/
import Derived.Test.YtekiepkopcpdbaaBBase
namespace Go.Proofs.Ytekiepkopcpdbaa
open Go.RowKit
set_option maxRecDepth 100000 in
set_option maxHeartbeats 4000000 in
theorem conditionalB_0 (b ctx : Value) (B : Addr) (U : Nat) (w : World) (hl : U < w.heap.size) (g2 : w.cell? ⟨U, 2, none⟩ = some .nilIface) (hV0 : Vis w ⟨U, 0, none⟩) (hF3 : FodS w ⟨U, 3, none⟩) (hV1 : Vis w ⟨U, 1, none⟩) :
    Calls Try.prog 17 #[b, .iface 54 (.pointer (some B)), .pointer (some ⟨U, 0, none⟩), ctx] w fun e w' => e = .returned (.tuple #[]) ∧ Own w w' := by
  have S0 := Lib.hid (Own.refl w)
  have HL := Lib.hid hl
  have n1 := nil_Visit B
  have m1 := m_Visit B
  have n2 := nil_Fodder B
  have m2 := m_Fodder B
  have HV0 := Lib.hid hV0
  have HF3 := Lib.hid hF3
  have HV1 := Lib.hid hV1
  have G2 := Lib.hid g2
  clear hl hV0 hF3 hV1
  go_enter Try.func17, Try.ntmps17
  go_wp2_with fail
  go_region_with (first | (go_at_call 19; refine (HV0.out _ S0.out.drew _ _ _).mono ?_; rintro e w1 ⟨rfl, hs⟩))
  have S1 := Lib.hid (S0.out.drew.go hs)
  clear hs S0
  clear g2
  have g2 := S1.out.cell HL.out G2.out
  go_wp2_with fail
  go_region_with (first | (go_at_call 81; refine (HF3.out _ S1.out.drew _ _ _).mono ?_; rintro e w2 ⟨rfl, hs⟩))
  have S2 := Lib.hid (S1.out.drew.go hs)
  clear hs S1
  clear g2
  have g2 := S2.out.cell HL.out G2.out
  go_wp2_with fail
  go_region_with (first | (go_at_call 19; refine (HV1.out _ S2.out.drew _ _ _).mono ?_; rintro e w3 ⟨rfl, hs⟩))
  have S3 := Lib.hid (S2.out.drew.go hs)
  clear hs S2
  clear g2
  have g2 := S3.out.cell HL.out G2.out
  go_wp2
  go_end0
  exact ⟨rfl, S3.out⟩
set_option maxRecDepth 100000 in
set_option maxHeartbeats 4000000 in
theorem conditionalB_1 (b ctx : Value) (B : Addr) (U : Nat) (w : World) (hl : U < w.heap.size) (t2 : Nat) (v2 : Value) (g2 : w.cell? ⟨U, 2, none⟩ = some (.iface t2 v2)) (hV0 : Vis w ⟨U, 0, none⟩) (hF3 : FodS w ⟨U, 3, none⟩) (hV1 : Vis w ⟨U, 1, none⟩) (hF4 : FodS w ⟨U, 4, none⟩) (hV2 : Vis w ⟨U, 2, none⟩) :
    Calls Try.prog 17 #[b, .iface 54 (.pointer (some B)), .pointer (some ⟨U, 0, none⟩), ctx] w fun e w' => e = .returned (.tuple #[]) ∧ Own w w' := by
  have S0 := Lib.hid (Own.refl w)
  have HL := Lib.hid hl
  have n1 := nil_Visit B
  have m1 := m_Visit B
  have n2 := nil_Fodder B
  have m2 := m_Fodder B
  have HV0 := Lib.hid hV0
  have HF3 := Lib.hid hF3
  have HV1 := Lib.hid hV1
  have HF4 := Lib.hid hF4
  have HV2 := Lib.hid hV2
  have G2 := Lib.hid g2
  clear hl hV0 hF3 hV1 hF4 hV2
  go_enter Try.func17, Try.ntmps17
  go_wp2_with fail
  go_region_with (first | (go_at_call 19; refine (HV0.out _ S0.out.drew _ _ _).mono ?_; rintro e w1 ⟨rfl, hs⟩))
  have S1 := Lib.hid (S0.out.drew.go hs)
  clear hs S0
  clear g2
  have g2 := S1.out.cell HL.out G2.out
  go_wp2_with fail
  go_region_with (first | (go_at_call 81; refine (HF3.out _ S1.out.drew _ _ _).mono ?_; rintro e w2 ⟨rfl, hs⟩))
  have S2 := Lib.hid (S1.out.drew.go hs)
  clear hs S1
  clear g2
  have g2 := S2.out.cell HL.out G2.out
  go_wp2_with fail
  go_region_with (first | (go_at_call 19; refine (HV1.out _ S2.out.drew _ _ _).mono ?_; rintro e w3 ⟨rfl, hs⟩))
  have S3 := Lib.hid (S2.out.drew.go hs)
  clear hs S2
  clear g2
  have g2 := S3.out.cell HL.out G2.out
  go_wp2_with fail
  go_region_with (first | (go_at_call 81; refine (HF4.out _ S3.out.drew _ _ _).mono ?_; rintro e w4 ⟨rfl, hs⟩))
  have S4 := Lib.hid (S3.out.drew.go hs)
  clear hs S3
  clear g2
  have g2 := S4.out.cell HL.out G2.out
  go_wp2_with fail
  go_region_with (first | (go_at_call 19; refine (HV2.out _ S4.out.drew _ _ _).mono ?_; rintro e w5 ⟨rfl, hs⟩))
  have S5 := Lib.hid (S4.out.drew.go hs)
  clear hs S4
  clear g2
  have g2 := S5.out.cell HL.out G2.out
  go_wp2
  go_end0
  exact ⟨rfl, S5.out⟩
end Go.Proofs.Ytekiepkopcpdbaa
