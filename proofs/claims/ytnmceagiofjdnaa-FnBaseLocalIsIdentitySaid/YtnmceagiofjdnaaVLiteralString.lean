/- Base.Visit by pass.Base itself over a node of the kind LiteralString: what was there stays. -/
import Derived.Test.YtnmceagiofjdnaaBBase
namespace Go.Proofs.Ytnmceagiofjdnaa
open Go.RowKit
theorem mo_LiteralString (S : Nat) (w : World) : (method 356 83 (.pointer (some ⟨S, 0, none⟩)) "OpenFodder").run Try.prog w = .ok (36, .pointer (some ⟨S, 3, none⟩)) w := by kernel_rfl
theorem ta_LiteralString_128 (U : Nat) (w : World) : (Instr.typeAssert (.iface 83 (.pointer (some ⟨U, 0, none⟩))) 41 128 true).run Try.prog w = .ok (.tuple #[.pointer none, .bool false]) w := by kernel_rfl
theorem ta_LiteralString_130 (U : Nat) (w : World) : (Instr.typeAssert (.iface 83 (.pointer (some ⟨U, 0, none⟩))) 41 130 true).run Try.prog w = .ok (.tuple #[.pointer none, .bool false]) w := by kernel_rfl
theorem ta_LiteralString_132 (U : Nat) (w : World) : (Instr.typeAssert (.iface 83 (.pointer (some ⟨U, 0, none⟩))) 41 132 true).run Try.prog w = .ok (.tuple #[.pointer none, .bool false]) w := by kernel_rfl
theorem ta_LiteralString_134 (U : Nat) (w : World) : (Instr.typeAssert (.iface 83 (.pointer (some ⟨U, 0, none⟩))) 41 134 true).run Try.prog w = .ok (.tuple #[.pointer none, .bool false]) w := by kernel_rfl
theorem ta_LiteralString_136 (U : Nat) (w : World) : (Instr.typeAssert (.iface 83 (.pointer (some ⟨U, 0, none⟩))) 41 136 true).run Try.prog w = .ok (.tuple #[.pointer none, .bool false]) w := by kernel_rfl
theorem ta_LiteralString_138 (U : Nat) (w : World) : (Instr.typeAssert (.iface 83 (.pointer (some ⟨U, 0, none⟩))) 41 138 true).run Try.prog w = .ok (.tuple #[.pointer none, .bool false]) w := by kernel_rfl
theorem ta_LiteralString_140 (U : Nat) (w : World) : (Instr.typeAssert (.iface 83 (.pointer (some ⟨U, 0, none⟩))) 41 140 true).run Try.prog w = .ok (.tuple #[.pointer none, .bool false]) w := by kernel_rfl
theorem ta_LiteralString_142 (U : Nat) (w : World) : (Instr.typeAssert (.iface 83 (.pointer (some ⟨U, 0, none⟩))) 41 142 true).run Try.prog w = .ok (.tuple #[.pointer none, .bool false]) w := by kernel_rfl
theorem ta_LiteralString_144 (U : Nat) (w : World) : (Instr.typeAssert (.iface 83 (.pointer (some ⟨U, 0, none⟩))) 41 144 true).run Try.prog w = .ok (.tuple #[.pointer none, .bool false]) w := by kernel_rfl
theorem ta_LiteralString_46 (U : Nat) (w : World) : (Instr.typeAssert (.iface 83 (.pointer (some ⟨U, 0, none⟩))) 41 46 true).run Try.prog w = .ok (.tuple #[.pointer none, .bool false]) w := by kernel_rfl
theorem ta_LiteralString_146 (U : Nat) (w : World) : (Instr.typeAssert (.iface 83 (.pointer (some ⟨U, 0, none⟩))) 41 146 true).run Try.prog w = .ok (.tuple #[.pointer none, .bool false]) w := by kernel_rfl
theorem ta_LiteralString_148 (U : Nat) (w : World) : (Instr.typeAssert (.iface 83 (.pointer (some ⟨U, 0, none⟩))) 41 148 true).run Try.prog w = .ok (.tuple #[.pointer none, .bool false]) w := by kernel_rfl
theorem ta_LiteralString_150 (U : Nat) (w : World) : (Instr.typeAssert (.iface 83 (.pointer (some ⟨U, 0, none⟩))) 41 150 true).run Try.prog w = .ok (.tuple #[.pointer none, .bool false]) w := by kernel_rfl
theorem ta_LiteralString_152 (U : Nat) (w : World) : (Instr.typeAssert (.iface 83 (.pointer (some ⟨U, 0, none⟩))) 41 152 true).run Try.prog w = .ok (.tuple #[.pointer none, .bool false]) w := by kernel_rfl
theorem ta_LiteralString_154 (U : Nat) (w : World) : (Instr.typeAssert (.iface 83 (.pointer (some ⟨U, 0, none⟩))) 41 154 true).run Try.prog w = .ok (.tuple #[.pointer none, .bool false]) w := by kernel_rfl
theorem ta_LiteralString_156 (U : Nat) (w : World) : (Instr.typeAssert (.iface 83 (.pointer (some ⟨U, 0, none⟩))) 41 156 true).run Try.prog w = .ok (.tuple #[.pointer none, .bool false]) w := by kernel_rfl
theorem ta_LiteralString_80 (U : Nat) (w : World) : (Instr.typeAssert (.iface 83 (.pointer (some ⟨U, 0, none⟩))) 41 80 true).run Try.prog w = .ok (.tuple #[.pointer none, .bool false]) w := by kernel_rfl
theorem ta_LiteralString_77 (U : Nat) (w : World) : (Instr.typeAssert (.iface 83 (.pointer (some ⟨U, 0, none⟩))) 41 77 true).run Try.prog w = .ok (.tuple #[.pointer none, .bool false]) w := by kernel_rfl
theorem ta_LiteralString_83 (U : Nat) (w : World) : (Instr.typeAssert (.iface 83 (.pointer (some ⟨U, 0, none⟩))) 41 83 true).run Try.prog w = .ok (.tuple #[.pointer (some ⟨U, 0, none⟩), .bool true]) w := by kernel_rfl
theorem leaf_LiteralString (b p x ctx : Value) (w : World) : Calls Try.prog 74 #[b, p, x, ctx] w fun e w' => e = .returned (.tuple #[]) ∧ w = w' := by
  go_enter Try.func74, Try.ntmps74
  go_wp2
  go_end0
  exact ⟨rfl, rfl⟩
set_option maxRecDepth 100000 in
set_option maxHeartbeats 4000000 in
theorem visitB_LiteralString (b ctx : Value) (B : Addr) (v : Value) (hv : FodV v) (U N o : Nat) (cu : Array Value) (w : World)
    (hN : w.cell? ⟨N, o, none⟩ = some (.iface 83 (.pointer (some ⟨U, 0, none⟩)))) (hNl : N < w.heap.size) (hU : w.heap[U]? = some (.cells cu 86 (0, 0))) (hF : cu[3]? = some v)
    (hC : ∀ w1, Below w.heap.size w w1 → Calls Try.prog 74 #[.pointer (some B), .iface 68 (.pointer (some B)), .pointer (some ⟨U, 0, none⟩), ctx] w1 fun e w' => e = .returned (.tuple #[]) ∧ Below w1.heap.size w1 w') :
    Calls Try.prog 45 #[b, .iface 68 (.pointer (some B)), .pointer (some ⟨N, o, none⟩), ctx] w fun e w' => e = .returned (.tuple #[]) ∧ Below w.heap.size w w' := by
  obtain ⟨fa, fl, fc, rfl⟩ : ∃ fa fl fc, v = .slice fa fl fc := by
    rcases hv with ⟨fa, cap, rfl⟩ | ⟨g, go, n, cap, rfl, _⟩
    · exact ⟨_, _, _, rfl⟩
    · exact ⟨_, _, _, rfl⟩
  have HV := Lib.hid hv
  have KU := Lib.hid hU
  have KF := Lib.hid hF
  have HC := Lib.hid hC
  have K1 := Lib.hid hN
  have c1 : w.cell? ⟨N, o, none⟩ = some (.iface 83 (.pointer (some ⟨U, 0, none⟩))) := hN
  have c2 : w.cell? ⟨U, 3, none⟩ = some (.slice fa fl fc) := cell_of hU hF
  clear hN hU hF hC hv
  have n2 := nil_Fodder B
  have m2 := m_Fodder B
  have m3 := mo_LiteralString U
  go_enter Try.func45, Try.ntmps45
  go_wp2_with (first | (go_at_call 36; refine (open_any _ _ _).mono ?_; rintro e w' ⟨rfl, rfl⟩))
  refine (fod_any _ _ _ _ _ _ _ HV.out (cell_of (heap_alloc_new w _) rfl)).mono ?_
  rintro e w1 ⟨rfl, m, hm⟩
  have BB := Lib.hid (show Below w.heap.size w w1 by rw [hm]; exact below_drewN (below_al (Below.refl _ _) _) m)
  have c3 : w1.cell? ⟨w.heap.size, 0, none⟩ = some (.slice fa fl fc) := by rw [hm]; exact cell_of (heap_alloc_new w (.cells #[.slice fa fl fc] 44)) rfl
  have K2 := keep BB.out KU.out
  clear c1 c2 hm
  have c1 : w1.cell? ⟨N, o, none⟩ = some (.iface 83 (.pointer (some ⟨U, 0, none⟩))) := (BB.out.cell (p := ⟨N, o, none⟩) hNl).trans K1.out
  have c2 : w1.cell? ⟨U, 3, none⟩ = some (.slice fa fl fc) := cell_of K2 KF.out
  have f2 : w1.frozen? ⟨U, 3, none⟩ = false := by simp [World.frozen?, K2]
  clear K2 KU K1 KF HV
  have n3 := nil_LiteralString B
  have m4 := m_LiteralString B
  have t128 := ta_LiteralString_128 U
  have t130 := ta_LiteralString_130 U
  have t132 := ta_LiteralString_132 U
  have t134 := ta_LiteralString_134 U
  have t136 := ta_LiteralString_136 U
  have t138 := ta_LiteralString_138 U
  have t140 := ta_LiteralString_140 U
  have t142 := ta_LiteralString_142 U
  have t144 := ta_LiteralString_144 U
  have t46 := ta_LiteralString_46 U
  have t146 := ta_LiteralString_146 U
  have t148 := ta_LiteralString_148 U
  have t150 := ta_LiteralString_150 U
  have t152 := ta_LiteralString_152 U
  have t154 := ta_LiteralString_154 U
  have t156 := ta_LiteralString_156 U
  have t80 := ta_LiteralString_80 U
  have t77 := ta_LiteralString_77 U
  have t83 := ta_LiteralString_83 U
  have hsame := setCell_same (w := w1.drew) c2
  have HCC := Lib.hid (HC.out w1.drew (below_drew BB.out))
  clear HC
  go_wp2_with fail
  go_region_with (first | (go_at_call 36; refine (open_any _ _ _).mono ?_; rintro e w' ⟨rfl, rfl⟩))
  all_goals clear hsame
  all_goals (go_wp2_with fail)
  all_goals (refine HCC.out.mono ?_; rintro e w2 ⟨rfl, hq⟩)
  all_goals (have HQ := Lib.hid hq; clear hq HCC)
  all_goals (go_wp2; go_end0; exact ⟨rfl, (below_drew BB.out).trans (HQ.out.mono (below_drew BB.out).size)⟩)
theorem vis_LiteralString {v : Value} (hv : FodV v) {U N o : Nat} {cu : Array Value} {w : World}
    (hN : w.cell? ⟨N, o, none⟩ = some (.iface 83 (.pointer (some ⟨U, 0, none⟩)))) (hNl : N < w.heap.size) (hU : w.heap[U]? = some (.cells cu 86 (0, 0))) (hF : cu[3]? = some v)
    : Vis w ⟨N, o, none⟩ :=
  fun w1 h b ctx B => visitB_LiteralString b ctx B v hv U N o cu w1 (h.cell hNl hN) (Nat.lt_of_lt_of_le hNl h.size) (h.at hU) hF fun w2 _ => (leaf_LiteralString _ _ _ _ w2).mono fun _ _ ⟨h1, h2⟩ => ⟨h1, by subst h2; exact Own.refl _⟩
end Go.Proofs.Ytnmceagiofjdnaa
