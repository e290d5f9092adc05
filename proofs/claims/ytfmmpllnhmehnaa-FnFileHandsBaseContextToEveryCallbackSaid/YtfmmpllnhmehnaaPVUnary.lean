/- Base.Visit under the abstract pass, over a node of the kind Unary. -/
import Derived.Test.YtfmmpllnhmehnaaPBase
namespace Go.Proofs.Ytfmmpllnhmehnaa
open Go.RowKit
theorem mo_Unary (S : Nat) (w : World) : (method 356 75 (.pointer (some ⟨S, 0, none⟩)) "OpenFodder").run Try.prog w = .ok (76, .pointer (some ⟨S, 1, none⟩)) w := by kernel_rfl
theorem ta_Unary_99 (U : Nat) (w : World) : (Instr.typeAssert (.iface 75 (.pointer (some ⟨U, 0, none⟩))) 29 99 true).run Try.prog w = .ok (.tuple #[.pointer none, .bool false]) w := by kernel_rfl
theorem ta_Unary_101 (U : Nat) (w : World) : (Instr.typeAssert (.iface 75 (.pointer (some ⟨U, 0, none⟩))) 29 101 true).run Try.prog w = .ok (.tuple #[.pointer none, .bool false]) w := by kernel_rfl
theorem ta_Unary_88 (U : Nat) (w : World) : (Instr.typeAssert (.iface 75 (.pointer (some ⟨U, 0, none⟩))) 29 88 true).run Try.prog w = .ok (.tuple #[.pointer none, .bool false]) w := by kernel_rfl
theorem ta_Unary_104 (U : Nat) (w : World) : (Instr.typeAssert (.iface 75 (.pointer (some ⟨U, 0, none⟩))) 29 104 true).run Try.prog w = .ok (.tuple #[.pointer none, .bool false]) w := by kernel_rfl
theorem ta_Unary_106 (U : Nat) (w : World) : (Instr.typeAssert (.iface 75 (.pointer (some ⟨U, 0, none⟩))) 29 106 true).run Try.prog w = .ok (.tuple #[.pointer none, .bool false]) w := by kernel_rfl
theorem ta_Unary_71 (U : Nat) (w : World) : (Instr.typeAssert (.iface 75 (.pointer (some ⟨U, 0, none⟩))) 29 71 true).run Try.prog w = .ok (.tuple #[.pointer none, .bool false]) w := by kernel_rfl
theorem ta_Unary_82 (U : Nat) (w : World) : (Instr.typeAssert (.iface 75 (.pointer (some ⟨U, 0, none⟩))) 29 82 true).run Try.prog w = .ok (.tuple #[.pointer none, .bool false]) w := by kernel_rfl
theorem ta_Unary_110 (U : Nat) (w : World) : (Instr.typeAssert (.iface 75 (.pointer (some ⟨U, 0, none⟩))) 29 110 true).run Try.prog w = .ok (.tuple #[.pointer none, .bool false]) w := by kernel_rfl
theorem ta_Unary_112 (U : Nat) (w : World) : (Instr.typeAssert (.iface 75 (.pointer (some ⟨U, 0, none⟩))) 29 112 true).run Try.prog w = .ok (.tuple #[.pointer none, .bool false]) w := by kernel_rfl
theorem ta_Unary_114 (U : Nat) (w : World) : (Instr.typeAssert (.iface 75 (.pointer (some ⟨U, 0, none⟩))) 29 114 true).run Try.prog w = .ok (.tuple #[.pointer none, .bool false]) w := by kernel_rfl
theorem ta_Unary_116 (U : Nat) (w : World) : (Instr.typeAssert (.iface 75 (.pointer (some ⟨U, 0, none⟩))) 29 116 true).run Try.prog w = .ok (.tuple #[.pointer none, .bool false]) w := by kernel_rfl
theorem ta_Unary_118 (U : Nat) (w : World) : (Instr.typeAssert (.iface 75 (.pointer (some ⟨U, 0, none⟩))) 29 118 true).run Try.prog w = .ok (.tuple #[.pointer none, .bool false]) w := by kernel_rfl
theorem ta_Unary_120 (U : Nat) (w : World) : (Instr.typeAssert (.iface 75 (.pointer (some ⟨U, 0, none⟩))) 29 120 true).run Try.prog w = .ok (.tuple #[.pointer none, .bool false]) w := by kernel_rfl
theorem ta_Unary_122 (U : Nat) (w : World) : (Instr.typeAssert (.iface 75 (.pointer (some ⟨U, 0, none⟩))) 29 122 true).run Try.prog w = .ok (.tuple #[.pointer none, .bool false]) w := by kernel_rfl
theorem ta_Unary_124 (U : Nat) (w : World) : (Instr.typeAssert (.iface 75 (.pointer (some ⟨U, 0, none⟩))) 29 124 true).run Try.prog w = .ok (.tuple #[.pointer none, .bool false]) w := by kernel_rfl
theorem ta_Unary_126 (U : Nat) (w : World) : (Instr.typeAssert (.iface 75 (.pointer (some ⟨U, 0, none⟩))) 29 126 true).run Try.prog w = .ok (.tuple #[.pointer none, .bool false]) w := by kernel_rfl
theorem ta_Unary_52 (U : Nat) (w : World) : (Instr.typeAssert (.iface 75 (.pointer (some ⟨U, 0, none⟩))) 29 52 true).run Try.prog w = .ok (.tuple #[.pointer none, .bool false]) w := by kernel_rfl
theorem ta_Unary_129 (U : Nat) (w : World) : (Instr.typeAssert (.iface 75 (.pointer (some ⟨U, 0, none⟩))) 29 129 true).run Try.prog w = .ok (.tuple #[.pointer none, .bool false]) w := by kernel_rfl
theorem ta_Unary_131 (U : Nat) (w : World) : (Instr.typeAssert (.iface 75 (.pointer (some ⟨U, 0, none⟩))) 29 131 true).run Try.prog w = .ok (.tuple #[.pointer none, .bool false]) w := by kernel_rfl
theorem ta_Unary_133 (U : Nat) (w : World) : (Instr.typeAssert (.iface 75 (.pointer (some ⟨U, 0, none⟩))) 29 133 true).run Try.prog w = .ok (.tuple #[.pointer none, .bool false]) w := by kernel_rfl
theorem ta_Unary_135 (U : Nat) (w : World) : (Instr.typeAssert (.iface 75 (.pointer (some ⟨U, 0, none⟩))) 29 135 true).run Try.prog w = .ok (.tuple #[.pointer none, .bool false]) w := by kernel_rfl
theorem ta_Unary_137 (U : Nat) (w : World) : (Instr.typeAssert (.iface 75 (.pointer (some ⟨U, 0, none⟩))) 29 137 true).run Try.prog w = .ok (.tuple #[.pointer none, .bool false]) w := by kernel_rfl
theorem ta_Unary_79 (U : Nat) (w : World) : (Instr.typeAssert (.iface 75 (.pointer (some ⟨U, 0, none⟩))) 29 79 true).run Try.prog w = .ok (.tuple #[.pointer none, .bool false]) w := by kernel_rfl
theorem ta_Unary_140 (U : Nat) (w : World) : (Instr.typeAssert (.iface 75 (.pointer (some ⟨U, 0, none⟩))) 29 140 true).run Try.prog w = .ok (.tuple #[.pointer none, .bool false]) w := by kernel_rfl
theorem ta_Unary_142 (U : Nat) (w : World) : (Instr.typeAssert (.iface 75 (.pointer (some ⟨U, 0, none⟩))) 29 142 true).run Try.prog w = .ok (.tuple #[.pointer none, .bool false]) w := by kernel_rfl
theorem ta_Unary_144 (U : Nat) (w : World) : (Instr.typeAssert (.iface 75 (.pointer (some ⟨U, 0, none⟩))) 29 144 true).run Try.prog w = .ok (.tuple #[.pointer none, .bool false]) w := by kernel_rfl
theorem ta_Unary_75 (U : Nat) (w : World) : (Instr.typeAssert (.iface 75 (.pointer (some ⟨U, 0, none⟩))) 29 75 true).run Try.prog w = .ok (.tuple #[.pointer (some ⟨U, 0, none⟩), .bool true]) w := by kernel_rfl
set_option maxRecDepth 100000 in
set_option maxHeartbeats 4000000 in
theorem visitP_Unary {TP B FEI : Nat} {ctx : Value} {St : World → List Int → Prop} (P : PassOK TP B FEI ctx St) (b f : Value) (U N o TN : Nat) (cN cu : Array Value) (w : World) (xs ys zs : List Int)
    (hN : w.heap[N]? = some (.cells cN TN (0, 0))) (hTN : Old TN) (hc : cN[o]? = some (.iface 75 (.pointer (some ⟨U, 0, none⟩)))) (hU : w.heap[U]? = some (.cells cu 78 (0, 0))) (hF : cu[1]? = some f) (hv : FodT w f ys) (hst : St w xs) (hb : Fits (xs ++ ys))
    (hC : ∀ w1, Kept w w1 → St w1 (xs ++ ys) → Calls Try.prog 63 #[.pointer (some ⟨B, 0, none⟩), .iface TP (.pointer (some ⟨B, 0, none⟩)), .pointer (some ⟨U, 0, none⟩), ctx] w1 fun e w' => e = .returned (.tuple #[]) ∧ St w' ((xs ++ ys) ++ zs) ∧ Kept w1 w') :
    Calls Try.prog 16 #[b, .iface TP (.pointer (some ⟨B, 0, none⟩)), .pointer (some ⟨N, o, none⟩), ctx] w fun e w' => e = .returned (.tuple #[]) ∧ St w' ((xs ++ ys) ++ zs) ∧ Kept w w' := by
  obtain ⟨fa, fl, fc, rfl⟩ : ∃ fa fl fc, f = .slice fa fl fc := by
    rcases hv with ⟨fa, cap, rfl, _⟩ | ⟨g, cap, ce, rfl, _⟩
    · exact ⟨_, _, _, rfl⟩
    · exact ⟨_, _, _, rfl⟩
  have HP := Lib.hid P
  have HS := Lib.hid hst
  have HV := Lib.hid hv
  have KU := Lib.hid hU
  have KF := Lib.hid hF
  have HC := Lib.hid hC
  have K1 := Lib.hid hN
  have KC := Lib.hid hc
  have KT := Lib.hid hTN
  have HB := Lib.hid hb
  have c1 := cell_of hN hc
  have c2 := cell_of hU hF
  clear P hN hU hF hC hv hc hTN hb hst
  have n2 := fun o => HP.out.n_Fodder (HP.out.al o HS.out)
  have m2 := fun o => HP.out.m_Fodder (HP.out.al o HS.out)
  have m3 := mo_Unary U
  go_enter Try.func16, Try.ntmps16
  go_wp2_with (first | (go_at_call 76; refine (open_any _ _ _).mono ?_; rintro e w' ⟨rfl, rfl⟩))
  clear n2 m2
  refine (fodP HP.out _ _ _ _ 32 _ _ xs ys (HP.out.al _ HS.out) (heap_alloc_new w _) (by decide) rfl (HV.out.keep ((Kept.refl _).al _)) HB.out).mono ?_
  rintro e w1 ⟨rfl, hs1, hk1⟩
  have S1 := Lib.hid hs1
  have BB := Lib.hid (((Kept.refl w).al _).go hk1)
  have c3 : w1.cell? ⟨w.heap.size, 0, none⟩ = some (.slice fa fl fc) := cell_of (hk1.at (heap_alloc_new w (.cells #[.slice fa fl fc] 32)) (by decide)) rfl
  have K2 := BB.out.at KU.out (by decide)
  clear c1 c2 hs1 hk1
  have c1 := cell_of (BB.out.at K1.out KT.out) KC.out
  have c2 := cell_of K2 KF.out
  have f2 : w1.frozen? ⟨U, 1, none⟩ = false := by simp [World.frozen?, K2]
  clear K2 KU K1 KF HV HS HB KC KT
  have n3 := HP.out.n_Unary (HP.out.dr S1.out)
  have m4 := HP.out.m_Unary (HP.out.dr S1.out)
  have t99 := ta_Unary_99 U
  have t101 := ta_Unary_101 U
  have t88 := ta_Unary_88 U
  have t104 := ta_Unary_104 U
  have t106 := ta_Unary_106 U
  have t71 := ta_Unary_71 U
  have t82 := ta_Unary_82 U
  have t110 := ta_Unary_110 U
  have t112 := ta_Unary_112 U
  have t114 := ta_Unary_114 U
  have t116 := ta_Unary_116 U
  have t118 := ta_Unary_118 U
  have t120 := ta_Unary_120 U
  have t122 := ta_Unary_122 U
  have t124 := ta_Unary_124 U
  have t126 := ta_Unary_126 U
  have t52 := ta_Unary_52 U
  have t129 := ta_Unary_129 U
  have t131 := ta_Unary_131 U
  have t133 := ta_Unary_133 U
  have t135 := ta_Unary_135 U
  have t137 := ta_Unary_137 U
  have t79 := ta_Unary_79 U
  have t140 := ta_Unary_140 U
  have t142 := ta_Unary_142 U
  have t144 := ta_Unary_144 U
  have t75 := ta_Unary_75 U
  have hsame := setCell_same (w := w1.drew) c2
  have HCC := Lib.hid (HC.out w1.drew BB.out.drew (HP.out.dr S1.out))
  clear HC
  go_wp2_with fail
  go_region_with (first | (go_at_call 76; refine (open_any _ _ _).mono ?_; rintro e w' ⟨rfl, rfl⟩))
  all_goals clear hsame
  all_goals (go_wp2_with fail)
  all_goals (refine HCC.out.mono ?_; rintro e w2 ⟨rfl, hq, hk⟩)
  all_goals (have HQ := Lib.hid hq; have HK := Lib.hid (BB.out.drew.go hk); clear hq hk HCC)
  all_goals (go_wp2; go_end0; exact ⟨rfl, HQ.out, HK.out⟩)
theorem vis_Unary {TP B FEI : Nat} {ctx : Value} {St : World → List Int → Prop} (P : PassOK TP B FEI ctx St) {f : Value} {U N o TN : Nat} {cN cu : Array Value} {w : World} {ys zs : List Int}
    (hN : w.heap[N]? = some (.cells cN TN (0, 0))) (hTN : Old TN) (hc : cN[o]? = some (.iface 75 (.pointer (some ⟨U, 0, none⟩)))) (hU : w.heap[U]? = some (.cells cu 78 (0, 0))) (hF : cu[1]? = some f) (hv : FodT w f ys)
    (hC : ∀ w1, Kept w w1 → ∀ xs, St w1 xs → Fits (xs ++ zs) → Calls Try.prog 63 #[.pointer (some ⟨B, 0, none⟩), .iface TP (.pointer (some ⟨B, 0, none⟩)), .pointer (some ⟨U, 0, none⟩), ctx] w1 fun e w' => e = .returned (.tuple #[]) ∧ St w' (xs ++ zs) ∧ Kept w1 w') : VisS TP B ctx St w ⟨N, o, none⟩ (ys ++ zs) :=
  fun w1 h b xs hst hb => (visitP_Unary P b f U N o TN cN cu w1 xs ys zs (h.at hN hTN) hTN hc (h.at hU (by decide)) hF (hv.keep h) hst (hb.mono (by simp only [List.length_append]; omega)) fun w2 k hs => hC w2 (h.go k) _ hs (hb.mono (by simp only [List.length_append]; omega))).mono fun _ _ ⟨h1, h2, h3⟩ => ⟨h1, by rw [List.append_assoc] at h2; exact h2, h3⟩
end Go.Proofs.Ytfmmpllnhmehnaa
