/- Base.Visit under the recording pass: the open fodder's callback, then the node's own method (its contract is a hypothesis). -/
import Derived.Test.YtnnpbjojailaeaaPass
namespace Go.Proofs.Ytnnpbjojailaeaa
open Go.RowKit
theorem find_Var : ((Try.prog.info? 24).bind fun i => i.methods.find? (·.name == "Var")).map (fun m => (m.path, m.func)) = some (#[{ struct := 29, index := 0, deref := true }], some (15, true)) := by kernel_rfl
theorem mo_Var (S : Nat) (w : World) : (method 352 64 (.pointer (some ⟨S, 0, none⟩)) "OpenFodder").run Try.prog w = .ok (32, .pointer (some ⟨S, 1, none⟩)) w := by kernel_rfl
theorem ta_Var_78 (U : Nat) (w : World) : (Instr.typeAssert (.iface 64 (.pointer (some ⟨U, 0, none⟩))) 32 78 true).run Try.prog w = .ok (.tuple #[.pointer none, .bool false]) w := by kernel_rfl
theorem ta_Var_80 (U : Nat) (w : World) : (Instr.typeAssert (.iface 64 (.pointer (some ⟨U, 0, none⟩))) 32 80 true).run Try.prog w = .ok (.tuple #[.pointer none, .bool false]) w := by kernel_rfl
theorem ta_Var_82 (U : Nat) (w : World) : (Instr.typeAssert (.iface 64 (.pointer (some ⟨U, 0, none⟩))) 32 82 true).run Try.prog w = .ok (.tuple #[.pointer none, .bool false]) w := by kernel_rfl
theorem ta_Var_84 (U : Nat) (w : World) : (Instr.typeAssert (.iface 64 (.pointer (some ⟨U, 0, none⟩))) 32 84 true).run Try.prog w = .ok (.tuple #[.pointer none, .bool false]) w := by kernel_rfl
theorem ta_Var_86 (U : Nat) (w : World) : (Instr.typeAssert (.iface 64 (.pointer (some ⟨U, 0, none⟩))) 32 86 true).run Try.prog w = .ok (.tuple #[.pointer none, .bool false]) w := by kernel_rfl
theorem ta_Var_88 (U : Nat) (w : World) : (Instr.typeAssert (.iface 64 (.pointer (some ⟨U, 0, none⟩))) 32 88 true).run Try.prog w = .ok (.tuple #[.pointer none, .bool false]) w := by kernel_rfl
theorem ta_Var_90 (U : Nat) (w : World) : (Instr.typeAssert (.iface 64 (.pointer (some ⟨U, 0, none⟩))) 32 90 true).run Try.prog w = .ok (.tuple #[.pointer none, .bool false]) w := by kernel_rfl
theorem ta_Var_92 (U : Nat) (w : World) : (Instr.typeAssert (.iface 64 (.pointer (some ⟨U, 0, none⟩))) 32 92 true).run Try.prog w = .ok (.tuple #[.pointer none, .bool false]) w := by kernel_rfl
theorem ta_Var_94 (U : Nat) (w : World) : (Instr.typeAssert (.iface 64 (.pointer (some ⟨U, 0, none⟩))) 32 94 true).run Try.prog w = .ok (.tuple #[.pointer none, .bool false]) w := by kernel_rfl
theorem ta_Var_96 (U : Nat) (w : World) : (Instr.typeAssert (.iface 64 (.pointer (some ⟨U, 0, none⟩))) 32 96 true).run Try.prog w = .ok (.tuple #[.pointer none, .bool false]) w := by kernel_rfl
theorem ta_Var_98 (U : Nat) (w : World) : (Instr.typeAssert (.iface 64 (.pointer (some ⟨U, 0, none⟩))) 32 98 true).run Try.prog w = .ok (.tuple #[.pointer none, .bool false]) w := by kernel_rfl
theorem ta_Var_100 (U : Nat) (w : World) : (Instr.typeAssert (.iface 64 (.pointer (some ⟨U, 0, none⟩))) 32 100 true).run Try.prog w = .ok (.tuple #[.pointer none, .bool false]) w := by kernel_rfl
theorem ta_Var_102 (U : Nat) (w : World) : (Instr.typeAssert (.iface 64 (.pointer (some ⟨U, 0, none⟩))) 32 102 true).run Try.prog w = .ok (.tuple #[.pointer none, .bool false]) w := by kernel_rfl
theorem ta_Var_104 (U : Nat) (w : World) : (Instr.typeAssert (.iface 64 (.pointer (some ⟨U, 0, none⟩))) 32 104 true).run Try.prog w = .ok (.tuple #[.pointer none, .bool false]) w := by kernel_rfl
theorem ta_Var_106 (U : Nat) (w : World) : (Instr.typeAssert (.iface 64 (.pointer (some ⟨U, 0, none⟩))) 32 106 true).run Try.prog w = .ok (.tuple #[.pointer none, .bool false]) w := by kernel_rfl
theorem ta_Var_108 (U : Nat) (w : World) : (Instr.typeAssert (.iface 64 (.pointer (some ⟨U, 0, none⟩))) 32 108 true).run Try.prog w = .ok (.tuple #[.pointer none, .bool false]) w := by kernel_rfl
theorem ta_Var_110 (U : Nat) (w : World) : (Instr.typeAssert (.iface 64 (.pointer (some ⟨U, 0, none⟩))) 32 110 true).run Try.prog w = .ok (.tuple #[.pointer none, .bool false]) w := by kernel_rfl
theorem ta_Var_112 (U : Nat) (w : World) : (Instr.typeAssert (.iface 64 (.pointer (some ⟨U, 0, none⟩))) 32 112 true).run Try.prog w = .ok (.tuple #[.pointer none, .bool false]) w := by kernel_rfl
theorem ta_Var_114 (U : Nat) (w : World) : (Instr.typeAssert (.iface 64 (.pointer (some ⟨U, 0, none⟩))) 32 114 true).run Try.prog w = .ok (.tuple #[.pointer none, .bool false]) w := by kernel_rfl
theorem ta_Var_116 (U : Nat) (w : World) : (Instr.typeAssert (.iface 64 (.pointer (some ⟨U, 0, none⟩))) 32 116 true).run Try.prog w = .ok (.tuple #[.pointer none, .bool false]) w := by kernel_rfl
theorem ta_Var_118 (U : Nat) (w : World) : (Instr.typeAssert (.iface 64 (.pointer (some ⟨U, 0, none⟩))) 32 118 true).run Try.prog w = .ok (.tuple #[.pointer none, .bool false]) w := by kernel_rfl
theorem ta_Var_120 (U : Nat) (w : World) : (Instr.typeAssert (.iface 64 (.pointer (some ⟨U, 0, none⟩))) 32 120 true).run Try.prog w = .ok (.tuple #[.pointer none, .bool false]) w := by kernel_rfl
theorem ta_Var_122 (U : Nat) (w : World) : (Instr.typeAssert (.iface 64 (.pointer (some ⟨U, 0, none⟩))) 32 122 true).run Try.prog w = .ok (.tuple #[.pointer none, .bool false]) w := by kernel_rfl
theorem ta_Var_124 (U : Nat) (w : World) : (Instr.typeAssert (.iface 64 (.pointer (some ⟨U, 0, none⟩))) 32 124 true).run Try.prog w = .ok (.tuple #[.pointer none, .bool false]) w := by kernel_rfl
theorem ta_Var_22 (U : Nat) (w : World) : (Instr.typeAssert (.iface 64 (.pointer (some ⟨U, 0, none⟩))) 32 22 true).run Try.prog w = .ok (.tuple #[.pointer none, .bool false]) w := by kernel_rfl
theorem ta_Var_40 (U : Nat) (w : World) : (Instr.typeAssert (.iface 64 (.pointer (some ⟨U, 0, none⟩))) 32 40 true).run Try.prog w = .ok (.tuple #[.pointer none, .bool false]) w := by kernel_rfl
theorem ta_Var_44 (U : Nat) (w : World) : (Instr.typeAssert (.iface 64 (.pointer (some ⟨U, 0, none⟩))) 32 44 true).run Try.prog w = .ok (.tuple #[.pointer none, .bool false]) w := by kernel_rfl
theorem ta_Var_64 (U : Nat) (w : World) : (Instr.typeAssert (.iface 64 (.pointer (some ⟨U, 0, none⟩))) 32 64 true).run Try.prog w = .ok (.tuple #[.pointer (some ⟨U, 0, none⟩), .bool true]) w := by kernel_rfl
set_option maxRecDepth 100000 in
set_option maxHeartbeats 4000000 in
theorem visit_Var {w0 w : World} {B n : Nat} {xs : List Value} (h : RecSt w0 w B n xs) (hn : n ≤ 90000) (b : Value) (fa : Option Addr) (fl fc U N : Nat) (cu : Array Value)
    (hN : w.heap[N]? = some (.cells #[.iface 64 (.pointer (some ⟨U, 0, none⟩))] 32 (0, 0))) (hU : w.heap[U]? = some (.cells cu 67 (0, 0))) (hF : cu[1]? = some (.slice fa fl fc)) (hNB : N ≠ B) (hUB : U ≠ B) (Q : World → Prop)
    (hC : ∀ w1, RecSt w0 w1 B (n + 1) (xs ++ [.bool false, .pointer none, .pointer (some ⟨w.heap.size, 0, none⟩)]) → Kept37 B w w1 → Calls Try.prog 15 #[.pointer (some ⟨B, 0, none⟩), .iface 24 (.pointer (some ⟨B, 0, none⟩)), .pointer (some ⟨U, 0, none⟩), .nilIface] w1 fun e w' => e = .returned (.tuple #[]) ∧ Q w') :
    Calls Try.prog 9 #[b, .iface 24 (.pointer (some ⟨B, 0, none⟩)), .pointer (some ⟨N, 0, none⟩), .nilIface] w fun e w' => e = .returned (.tuple #[]) ∧ Q w' := by
  have HH := Lib.hid h
  have HN := Lib.hid hn
  have KN := Lib.hid hN
  have KU := Lib.hid hU
  have KF := Lib.hid hF
  have HC := Lib.hid hC
  have c1 : w.cell? ⟨N, 0, none⟩ = some (.iface 64 (.pointer (some ⟨U, 0, none⟩))) := by simp [World.cell?, hN]
  have c2 : w.cell? ⟨U, 1, none⟩ = some (.slice fa fl fc) := by simp [World.cell?, hU, hF]
  clear h hn hN hU hF hC
  have m2 := m_fodder ⟨B, 0, none⟩
  have m3 := mo_Var U
  go_enter Try.func9, Try.ntmps9
  go_wp2_with (first | (go_at_call 32; refine (open_any _ _ _).mono ?_; rintro e w' ⟨rfl, rfl⟩))
  refine (rec_fodder (HH.out.alloc _) (Nat.le_trans HN.out (by decide)) _ _ _).mono ?_
  rintro e w1 ⟨rfl, hr, hk⟩
  have KK := Lib.hid ((Kept37.of_alloc B w _).trans hk)
  have K1 := KK.out.2 N _ 32 _ KN.out hNB (by decide)
  have K2 := KK.out.2 U _ 67 _ KU.out hUB (by decide)
  have K3 := hk.2 w.heap.size _ 46 _ (heap_alloc_new w _) (by have := HH.out.lt; have := HH.out.size; omega) (by decide)
  have HR := Lib.hid hr
  clear HH hr hk KN KU c1 c2
  have c1 : w1.cell? ⟨N, 0, none⟩ = some (.iface 64 (.pointer (some ⟨U, 0, none⟩))) := by simp [World.cell?, K1]
  have c2 : w1.cell? ⟨U, 1, none⟩ = some (.slice fa fl fc) := by simp [World.cell?, K2, KF.out]
  have f2 : w1.frozen? ⟨U, 1, none⟩ = false := by simp [World.frozen?, K2]
  have c3 : w1.cell? ⟨w.heap.size, 0, none⟩ = some (.slice fa fl fc) := by simp [World.cell?, K3]
  clear K1 K2 K3
  obtain ⟨lv, hlv, -⟩ := HR.out.evs
  have mU1 := run_method_base 351 "Var" 15 find_Var w1.drew B _ hlv
  clear hlv
  have t78 := ta_Var_78 U
  have t80 := ta_Var_80 U
  have t82 := ta_Var_82 U
  have t84 := ta_Var_84 U
  have t86 := ta_Var_86 U
  have t88 := ta_Var_88 U
  have t90 := ta_Var_90 U
  have t92 := ta_Var_92 U
  have t94 := ta_Var_94 U
  have t96 := ta_Var_96 U
  have t98 := ta_Var_98 U
  have t100 := ta_Var_100 U
  have t102 := ta_Var_102 U
  have t104 := ta_Var_104 U
  have t106 := ta_Var_106 U
  have t108 := ta_Var_108 U
  have t110 := ta_Var_110 U
  have t112 := ta_Var_112 U
  have t114 := ta_Var_114 U
  have t116 := ta_Var_116 U
  have t118 := ta_Var_118 U
  have t120 := ta_Var_120 U
  have t122 := ta_Var_122 U
  have t124 := ta_Var_124 U
  have t22 := ta_Var_22 U
  have t40 := ta_Var_40 U
  have t44 := ta_Var_44 U
  have t64 := ta_Var_64 U
  have hsame := setCell_same (w := w1.drew) c2
  have H2 := Lib.hid HR.out.drew
  have HCC := Lib.hid (HC.out w1.drew H2.out KK.out.drew)
  clear HR HC KK HN KF
  go_wp2_with fail
  go_region_with (first | (go_at_call 32; refine (open_any _ _ _).mono ?_; rintro e w' ⟨rfl, rfl⟩))
  all_goals clear hsame
  all_goals (go_wp2_with fail)
  all_goals (refine HCC.out.mono ?_; rintro e w2 ⟨rfl, hq⟩)
  all_goals (go_wp2; go_end0; exact ⟨rfl, hq⟩)
end Go.Proofs.Ytnnpbjojailaeaa
