/- Base.Binary by pass.Base itself: what was there stays. -/
import Derived.Test.YtekiepkopcpdbaaBBase
namespace Go.Proofs.Ytekiepkopcpdbaa
open Go.RowKit
set_option maxRecDepth 100000 in
set_option maxHeartbeats 4000000 in
theorem binaryB_ (b ctx : Value) (B : Addr) (U : Nat) (w : World) (hl : U < w.heap.size)  (hV1 : Vis w ⟨U, 1, none⟩) (hF2 : FodS w ⟨U, 2, none⟩) (hV0 : Vis w ⟨U, 0, none⟩) :
    Calls Try.prog 21 #[b, .iface 54 (.pointer (some B)), .pointer (some ⟨U, 0, none⟩), ctx] w fun e w' => e = .returned (.tuple #[]) ∧ Own w w' := by
  have S0 := Lib.hid (Own.refl w)
  have HL := Lib.hid hl
  have n1 := nil_Visit B
  have m1 := m_Visit B
  have n2 := nil_Fodder B
  have m2 := m_Fodder B
  have HV1 := Lib.hid hV1
  have HF2 := Lib.hid hF2
  have HV0 := Lib.hid hV0
  clear hl hV1 hF2 hV0
  go_enter Try.func21, Try.ntmps21
  go_wp2_with fail
  go_region_with (first | (go_at_call 19; refine (HV1.out _ S0.out.drew _ _ _).mono ?_; rintro e w1 ⟨rfl, hs⟩))
  have S1 := Lib.hid (S0.out.drew.go hs)
  clear hs S0
  go_wp2_with fail
  go_region_with (first | (go_at_call 81; refine (HF2.out _ S1.out.drew _ _ _).mono ?_; rintro e w2 ⟨rfl, hs⟩))
  have S2 := Lib.hid (S1.out.drew.go hs)
  clear hs S1
  go_wp2_with fail
  go_region_with (first | (go_at_call 19; refine (HV0.out _ S2.out.drew _ _ _).mono ?_; rintro e w3 ⟨rfl, hs⟩))
  have S3 := Lib.hid (S2.out.drew.go hs)
  clear hs S2
  go_wp2
  go_end0
  exact ⟨rfl, S3.out⟩
end Go.Proofs.Ytekiepkopcpdbaa
