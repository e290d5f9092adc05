/- Base.Visit by pass.Base itself over a node of the kind LiteralNumber: what was there stays. -/
import Derived.Test.YtekiepkopcpdbaaBBase
namespace Go.Proofs.Ytekiepkopcpdbaa
open Go.RowKit
theorem mo_LiteralNumber (S : Nat) (w : World) : (method 354 23 (.pointer (some ⟨S, 0, none⟩)) "OpenFodder").run Try.prog w = .ok (42, .pointer (some ⟨S, 1, none⟩)) w := by kernel_rfl
theorem ta_LiteralNumber_87 (U : Nat) (w : World) : (Instr.typeAssert (.iface 23 (.pointer (some ⟨U, 0, none⟩))) 27 87 true).run Try.prog w = .ok (.tuple #[.pointer none, .bool false]) w := by kernel_rfl
theorem ta_LiteralNumber_89 (U : Nat) (w : World) : (Instr.typeAssert (.iface 23 (.pointer (some ⟨U, 0, none⟩))) 27 89 true).run Try.prog w = .ok (.tuple #[.pointer none, .bool false]) w := by kernel_rfl
theorem ta_LiteralNumber_91 (U : Nat) (w : World) : (Instr.typeAssert (.iface 23 (.pointer (some ⟨U, 0, none⟩))) 27 91 true).run Try.prog w = .ok (.tuple #[.pointer none, .bool false]) w := by kernel_rfl
theorem ta_LiteralNumber_93 (U : Nat) (w : World) : (Instr.typeAssert (.iface 23 (.pointer (some ⟨U, 0, none⟩))) 27 93 true).run Try.prog w = .ok (.tuple #[.pointer none, .bool false]) w := by kernel_rfl
theorem ta_LiteralNumber_25 (U : Nat) (w : World) : (Instr.typeAssert (.iface 23 (.pointer (some ⟨U, 0, none⟩))) 27 25 true).run Try.prog w = .ok (.tuple #[.pointer none, .bool false]) w := by kernel_rfl
theorem ta_LiteralNumber_71 (U : Nat) (w : World) : (Instr.typeAssert (.iface 23 (.pointer (some ⟨U, 0, none⟩))) 27 71 true).run Try.prog w = .ok (.tuple #[.pointer none, .bool false]) w := by kernel_rfl
theorem ta_LiteralNumber_61 (U : Nat) (w : World) : (Instr.typeAssert (.iface 23 (.pointer (some ⟨U, 0, none⟩))) 27 61 true).run Try.prog w = .ok (.tuple #[.pointer none, .bool false]) w := by kernel_rfl
theorem ta_LiteralNumber_66 (U : Nat) (w : World) : (Instr.typeAssert (.iface 23 (.pointer (some ⟨U, 0, none⟩))) 27 66 true).run Try.prog w = .ok (.tuple #[.pointer none, .bool false]) w := by kernel_rfl
theorem ta_LiteralNumber_96 (U : Nat) (w : World) : (Instr.typeAssert (.iface 23 (.pointer (some ⟨U, 0, none⟩))) 27 96 true).run Try.prog w = .ok (.tuple #[.pointer none, .bool false]) w := by kernel_rfl
theorem ta_LiteralNumber_98 (U : Nat) (w : World) : (Instr.typeAssert (.iface 23 (.pointer (some ⟨U, 0, none⟩))) 27 98 true).run Try.prog w = .ok (.tuple #[.pointer none, .bool false]) w := by kernel_rfl
theorem ta_LiteralNumber_100 (U : Nat) (w : World) : (Instr.typeAssert (.iface 23 (.pointer (some ⟨U, 0, none⟩))) 27 100 true).run Try.prog w = .ok (.tuple #[.pointer none, .bool false]) w := by kernel_rfl
theorem ta_LiteralNumber_102 (U : Nat) (w : World) : (Instr.typeAssert (.iface 23 (.pointer (some ⟨U, 0, none⟩))) 27 102 true).run Try.prog w = .ok (.tuple #[.pointer none, .bool false]) w := by kernel_rfl
theorem ta_LiteralNumber_104 (U : Nat) (w : World) : (Instr.typeAssert (.iface 23 (.pointer (some ⟨U, 0, none⟩))) 27 104 true).run Try.prog w = .ok (.tuple #[.pointer none, .bool false]) w := by kernel_rfl
theorem ta_LiteralNumber_106 (U : Nat) (w : World) : (Instr.typeAssert (.iface 23 (.pointer (some ⟨U, 0, none⟩))) 27 106 true).run Try.prog w = .ok (.tuple #[.pointer none, .bool false]) w := by kernel_rfl
theorem ta_LiteralNumber_108 (U : Nat) (w : World) : (Instr.typeAssert (.iface 23 (.pointer (some ⟨U, 0, none⟩))) 27 108 true).run Try.prog w = .ok (.tuple #[.pointer none, .bool false]) w := by kernel_rfl
theorem ta_LiteralNumber_110 (U : Nat) (w : World) : (Instr.typeAssert (.iface 23 (.pointer (some ⟨U, 0, none⟩))) 27 110 true).run Try.prog w = .ok (.tuple #[.pointer none, .bool false]) w := by kernel_rfl
theorem ta_LiteralNumber_112 (U : Nat) (w : World) : (Instr.typeAssert (.iface 23 (.pointer (some ⟨U, 0, none⟩))) 27 112 true).run Try.prog w = .ok (.tuple #[.pointer none, .bool false]) w := by kernel_rfl
theorem ta_LiteralNumber_23 (U : Nat) (w : World) : (Instr.typeAssert (.iface 23 (.pointer (some ⟨U, 0, none⟩))) 27 23 true).run Try.prog w = .ok (.tuple #[.pointer (some ⟨U, 0, none⟩), .bool true]) w := by kernel_rfl
theorem leaf_LiteralNumber (b p x ctx : Value) (w : World) : Calls Try.prog 90 #[b, p, x, ctx] w fun e w' => e = .returned (.tuple #[]) ∧ w = w' := by
  go_enter Try.func90, Try.ntmps90
  go_wp2
  go_end0
  exact ⟨rfl, rfl⟩
set_option maxRecDepth 100000 in
set_option maxHeartbeats 4000000 in
theorem visitB_LiteralNumber (b ctx : Value) (B : Addr) (v : Value) (hv : FodV v) (U N o : Nat) (cu : Array Value) (w : World)
    (hN : w.cell? ⟨N, o, none⟩ = some (.iface 23 (.pointer (some ⟨U, 0, none⟩)))) (hNl : N < w.heap.size) (hU : w.heap[U]? = some (.cells cu 60 (0, 0))) (hF : cu[1]? = some v)
    (hC : ∀ w1, Below w.heap.size w w1 → Calls Try.prog 90 #[.pointer (some B), .iface 54 (.pointer (some B)), .pointer (some ⟨U, 0, none⟩), ctx] w1 fun e w' => e = .returned (.tuple #[]) ∧ Below w1.heap.size w1 w') :
    Calls Try.prog 19 #[b, .iface 54 (.pointer (some B)), .pointer (some ⟨N, o, none⟩), ctx] w fun e w' => e = .returned (.tuple #[]) ∧ Below w.heap.size w w' := by
  obtain ⟨fa, fl, fc, rfl⟩ : ∃ fa fl fc, v = .slice fa fl fc := by
    rcases hv with ⟨fa, cap, rfl⟩ | ⟨g, go, n, cap, rfl, _⟩
    · exact ⟨_, _, _, rfl⟩
    · exact ⟨_, _, _, rfl⟩
  have HV := Lib.hid hv
  have KU := Lib.hid hU
  have KF := Lib.hid hF
  have HC := Lib.hid hC
  have K1 := Lib.hid hN
  have c1 : w.cell? ⟨N, o, none⟩ = some (.iface 23 (.pointer (some ⟨U, 0, none⟩))) := hN
  have c2 : w.cell? ⟨U, 1, none⟩ = some (.slice fa fl fc) := cell_of hU hF
  clear hN hU hF hC hv
  have n2 := nil_Fodder B
  have m2 := m_Fodder B
  have m3 := mo_LiteralNumber U
  go_enter Try.func19, Try.ntmps19
  go_wp2_with (first | (go_at_call 42; refine (open_any _ _ _).mono ?_; rintro e w' ⟨rfl, rfl⟩))
  refine (fod_any _ _ _ _ _ _ _ HV.out (cell_of (heap_alloc_new w _) rfl)).mono ?_
  rintro e w1 ⟨rfl, m, hm⟩
  have BB := Lib.hid (show Below w.heap.size w w1 by rw [hm]; exact below_drewN (below_al (Below.refl _ _) _) m)
  have c3 : w1.cell? ⟨w.heap.size, 0, none⟩ = some (.slice fa fl fc) := by rw [hm]; exact cell_of (heap_alloc_new w (.cells #[.slice fa fl fc] 29)) rfl
  have K2 := keep BB.out KU.out
  clear c1 c2 hm
  have c1 : w1.cell? ⟨N, o, none⟩ = some (.iface 23 (.pointer (some ⟨U, 0, none⟩))) := (BB.out.cell (p := ⟨N, o, none⟩) hNl).trans K1.out
  have c2 : w1.cell? ⟨U, 1, none⟩ = some (.slice fa fl fc) := cell_of K2 KF.out
  have f2 : w1.frozen? ⟨U, 1, none⟩ = false := by simp [World.frozen?, K2]
  clear K2 KU K1 KF HV
  have n3 := nil_LiteralNumber B
  have m4 := m_LiteralNumber B
  have t87 := ta_LiteralNumber_87 U
  have t89 := ta_LiteralNumber_89 U
  have t91 := ta_LiteralNumber_91 U
  have t93 := ta_LiteralNumber_93 U
  have t25 := ta_LiteralNumber_25 U
  have t71 := ta_LiteralNumber_71 U
  have t61 := ta_LiteralNumber_61 U
  have t66 := ta_LiteralNumber_66 U
  have t96 := ta_LiteralNumber_96 U
  have t98 := ta_LiteralNumber_98 U
  have t100 := ta_LiteralNumber_100 U
  have t102 := ta_LiteralNumber_102 U
  have t104 := ta_LiteralNumber_104 U
  have t106 := ta_LiteralNumber_106 U
  have t108 := ta_LiteralNumber_108 U
  have t110 := ta_LiteralNumber_110 U
  have t112 := ta_LiteralNumber_112 U
  have t23 := ta_LiteralNumber_23 U
  have hsame := setCell_same (w := w1.drew) c2
  have HCC := Lib.hid (HC.out w1.drew (below_drew BB.out))
  clear HC
  go_wp2_with fail
  go_region_with (first | (go_at_call 42; refine (open_any _ _ _).mono ?_; rintro e w' ⟨rfl, rfl⟩))
  all_goals clear hsame
  all_goals (go_wp2_with fail)
  all_goals (refine HCC.out.mono ?_; rintro e w2 ⟨rfl, hq⟩)
  all_goals (have HQ := Lib.hid hq; clear hq HCC)
  all_goals (go_wp2; go_end0; exact ⟨rfl, (below_drew BB.out).trans (HQ.out.mono (below_drew BB.out).size)⟩)
theorem vis_LiteralNumber {v : Value} (hv : FodV v) {U N o : Nat} {cu : Array Value} {w : World}
    (hN : w.cell? ⟨N, o, none⟩ = some (.iface 23 (.pointer (some ⟨U, 0, none⟩)))) (hNl : N < w.heap.size) (hU : w.heap[U]? = some (.cells cu 60 (0, 0))) (hF : cu[1]? = some v)
    : Vis w ⟨N, o, none⟩ :=
  fun w1 h b ctx B => visitB_LiteralNumber b ctx B v hv U N o cu w1 (h.cell hNl hN) (Nat.lt_of_lt_of_le hNl h.size) (h.at hU) hF fun w2 _ => (leaf_LiteralNumber _ _ _ _ w2).mono fun _ _ ⟨h1, h2⟩ => ⟨h1, by subst h2; exact Own.refl _⟩
end Go.Proofs.Ytekiepkopcpdbaa
