/- The Local as it lies; Base.Local over it; its readers. -/
import Derived.Test.YtnmceagiofjdnaaMk12
namespace Go.Proofs.Ytnmceagiofjdnaa
open Go.RowKit
structure LocC (lo : Nat) (w : World) (U g h n : Nat) (ss : List ByteArray) : Prop where
  u : ∃ cu L cl, w.heap[U]? = some (.cells cu 67 (0, 0)) ∧ cu[0]? = some (.slice (some ⟨g, 0, none⟩) n n) ∧ cu[1]? = some (.iface 83 (.pointer (some ⟨L, 0, none⟩))) ∧ w.heap[L]? = some (.cells cl 86 (0, 0)) ∧ cl[3]? = some (.slice (some ⟨h, 0, none⟩) n n)
  g : ∃ cg, w.heap[g]? = some (.cells cg 53 (0, 0)) ∧ ∀ i, i < n → BindC lo w cg i (ss.getD i ByteArray.empty)
  h : ∃ ch, w.heap[h]? = some (.cells ch 75 (0, 0)) ∧ ∀ i, i < n → ElC lo w ch i (ss.getD i ByteArray.empty)
theorem LocC.keep {lo : Nat} {w w' : World} {U g h n : Nat} {ss : List ByteArray} (x : LocC lo w U g h n ss) (k : Own w w') : LocC lo w' U g h n ss := by
  obtain ⟨cu, L, cl, u1, u2, u3, u4, u5⟩ := x.u
  obtain ⟨cg, g1, g2⟩ := x.g
  obtain ⟨ch, h1, h2⟩ := x.h
  exact ⟨⟨cu, L, cl, k.at u1, u2, u3, k.at u4, u5⟩, ⟨cg, k.at g1, fun i hi => (g2 i hi).keep (Keep.of_own k) (fun _ _ => rfl)⟩, ⟨ch, k.at h1, fun i hi => (h2 i hi).keep (Keep.of_own k) rfl⟩⟩
theorem One.fodS {lo : Nat} {w : World} {v : Value} {c : ByteArray} (h : One lo w v c) {F o T : Nat} {cF : Array Value} (hF : w.heap[F]? = some (.cells cF T (0, 0))) (hv : cF[o]? = some v) : FodS w ⟨F, o, none⟩ := fodS_of (lt_of_at hF) h.fodV (cell_of hF hv)
theorem BindC.bin {lo : Nat} {w : World} {cg : Array Value} {g i : Nat} {c : ByteArray} (b : BindC lo w cg i c) (hg : w.heap[g]? = some (.cells cg 53 (0, 0))) : BindIn w g i := by
  obtain ⟨⟨v0, a0, b0⟩, ⟨v2, a2, b2⟩, ⟨v4, a4, b4⟩, ⟨v1, a1, b1⟩, ⟨v5, a5, b5⟩⟩ := b
  obtain ⟨L, cl, vf, rfl, _, l3, l4, l5⟩ := b1
  obtain ⟨F, cf, Q, vl, vr, rfl, _, f3, f4, f5, f6, f7, f8, f9⟩ := b5
  obtain ⟨cq, Z, cz, vn, ve, vc, q1, q2, q3, q4, q5, _, q7, q8, q9, q10, q11⟩ := f9.ex
  refine ⟨b0.fodS hg a0, b2.fodS hg a2, vis_LiteralNumber l5.fodV (cell_of hg a1) (lt_of_at hg) l3 l4, b4.fodS hg a4, .inr ⟨F, cell_of hg a5, lt_of_at f3, f7.fodS f3 f4, f8.fodS f3 f5, Q, _, _, cell_of f3 f6, lt_of_at q1, cell_of q1 q5, q9.fodS q1 q2, q10.fodS q1 q4, vis_LiteralNull (.inl ⟨none, 0, rfl⟩) (cell_of q1 q5) (lt_of_at q1) q7 q8, q11.fodS q1 q3⟩⟩
theorem LocC.base {lo : Nat} {w : World} {U g h n : Nat} {ss : List ByteArray} (x : LocC lo w U g h n ss) (hn : n ≤ 4096) : Calls Try.prog 7 #[.pointer (some ⟨U, 0, none⟩)] w fun e w' => e = .returned (.tuple #[]) ∧ Own w w' := by
  obtain ⟨cu, L, cl, u1, u2, u3, u4, u5⟩ := x.u
  obtain ⟨cg, g1, g2⟩ := x.g
  exact baseLocal U g n n w (lt_of_at u1) (lt_of_at g1) hn (cell_of u1 u2) (fun i hi => (g2 i hi).bin g1) (vis_LiteralString (.inr ⟨h, 0, n, n, rfl, by omega⟩) (cell_of u1 u3) (lt_of_at u1) u4 u5)
theorem count8 {lo : Nat} {w : World} {U g h n : Nat} {ss : List ByteArray} (x : LocC lo w U g h n ss) : Calls Try.prog 8 #[.pointer (some ⟨U, 0, none⟩)] w fun e w' => e = .returned (.int .i64 (n : Int)) ∧ w = w' := by
  obtain ⟨cu, L, cl, u1, u2, _⟩ := x.u
  have c1 := cell_of u1 u2
  clear u1 u2 x
  go_enter Try.func8, Try.ntmps8
  go_wp2
  go_ret
  exact ⟨rfl, rfl⟩
theorem ptr46e (a : Addr) (w : World) : (binOp .eql 46 (.pointer (some a)) (.pointer none)).run Try.prog w = .ok (.bool false) w := by kernel_rfl
/-- A fodder of one element, read. -/
theorem One.cells {lo : Nat} {w : World} {v : Value} {c : ByteArray} (h : One lo w v c) : ∃ A S, v = .slice (some ⟨A, 0, none⟩) 1 1 ∧ w.cell? ⟨A, 0, none⟩ = some (.slice (some ⟨S, 0, none⟩) 1 1) ∧ w.cell? ⟨S, 0, none⟩ = some (.string c) := by
  obtain ⟨A, S, h1, _, _, h4, h5⟩ := h
  exact ⟨A, S, h1, cell_of h4 rfl, cell_of h5 rfl⟩
set_option maxRecDepth 100000 in
set_option maxHeartbeats 4000000 in
theorem fod13_0 {lo : Nat} {w : World} {U g h n : Nat} {ss : List ByteArray} (x : LocC lo w U g h n ss) (i : Nat) (hi : i < n) (hn : n ≤ 4096) :
    Calls Try.prog 13 #[.pointer (some ⟨U, 0, none⟩), .int .i64 (i : Int), .int .i64 0] w fun e w' => e = .returned (.tuple #[.int .i64 1, .string (ss.getD i ByteArray.empty)]) ∧ ∃ m, w' = w.drewN m := by
  obtain ⟨cu, L, cl, u1, u2, _⟩ := x.u
  obtain ⟨cg, g1, g2⟩ := x.g
  obtain ⟨⟨v0, a0, b0⟩, ⟨v2, a2, b2⟩, ⟨v4, a4, b4⟩, ⟨v1, a1, b1⟩, ⟨v5, a5, b5⟩⟩ := g2 i hi
  generalize ss.getD i ByteArray.empty = c at *
  have e0 : (n : Int) ≤ 4096 := by omega
  have k0 := cell_of u1 u2
  obtain ⟨A, S, rfl, s1, s2⟩ := b0.cells
  have k1 := cell_of g1 a0
  clear u1 u2 g1 g2 x hn a0 b0 a2 b2 a4 b4 a1 b1 a5 b5
  go_enter Try.func13, Try.ntmps13
  go_wp2_with fail
  go_quiet (fail)
  go_wp2
  go_ret2
  exact ⟨rfl, _, rfl⟩
set_option maxRecDepth 100000 in
set_option maxHeartbeats 4000000 in
theorem fod13_1 {lo : Nat} {w : World} {U g h n : Nat} {ss : List ByteArray} (x : LocC lo w U g h n ss) (i : Nat) (hi : i < n) (hn : n ≤ 4096) :
    Calls Try.prog 13 #[.pointer (some ⟨U, 0, none⟩), .int .i64 (i : Int), .int .i64 1] w fun e w' => e = .returned (.tuple #[.int .i64 1, .string (ss.getD i ByteArray.empty)]) ∧ ∃ m, w' = w.drewN m := by
  obtain ⟨cu, L, cl, u1, u2, _⟩ := x.u
  obtain ⟨cg, g1, g2⟩ := x.g
  obtain ⟨⟨v0, a0, b0⟩, ⟨v2, a2, b2⟩, ⟨v4, a4, b4⟩, ⟨v1, a1, b1⟩, ⟨v5, a5, b5⟩⟩ := g2 i hi
  generalize ss.getD i ByteArray.empty = c at *
  have e0 : (n : Int) ≤ 4096 := by omega
  have k0 := cell_of u1 u2
  obtain ⟨A, S, rfl, s1, s2⟩ := b2.cells
  have k1 := cell_of g1 a2
  clear u1 u2 g1 g2 x hn a0 b0 a2 b2 a4 b4 a1 b1 a5 b5
  go_enter Try.func13, Try.ntmps13
  go_wp2_with fail
  go_quiet (fail)
  go_wp2
  go_ret2
  exact ⟨rfl, _, rfl⟩
set_option maxRecDepth 100000 in
set_option maxHeartbeats 4000000 in
theorem fod13_2 {lo : Nat} {w : World} {U g h n : Nat} {ss : List ByteArray} (x : LocC lo w U g h n ss) (i : Nat) (hi : i < n) (hn : n ≤ 4096) :
    Calls Try.prog 13 #[.pointer (some ⟨U, 0, none⟩), .int .i64 (i : Int), .int .i64 2] w fun e w' => e = .returned (.tuple #[.int .i64 1, .string (ss.getD i ByteArray.empty)]) ∧ ∃ m, w' = w.drewN m := by
  obtain ⟨cu, L, cl, u1, u2, _⟩ := x.u
  obtain ⟨cg, g1, g2⟩ := x.g
  obtain ⟨⟨v0, a0, b0⟩, ⟨v2, a2, b2⟩, ⟨v4, a4, b4⟩, ⟨v1, a1, b1⟩, ⟨v5, a5, b5⟩⟩ := g2 i hi
  generalize ss.getD i ByteArray.empty = c at *
  have e0 : (n : Int) ≤ 4096 := by omega
  have k0 := cell_of u1 u2
  obtain ⟨A, S, rfl, s1, s2⟩ := b4.cells
  have k1 := cell_of g1 a4
  clear u1 u2 g1 g2 x hn a0 b0 a2 b2 a4 b4 a1 b1 a5 b5
  go_enter Try.func13, Try.ntmps13
  go_wp2_with fail
  go_quiet (fail)
  go_wp2
  go_ret2
  exact ⟨rfl, _, rfl⟩
set_option maxRecDepth 100000 in
set_option maxHeartbeats 4000000 in
theorem fod13_3 {lo : Nat} {w : World} {U g h n : Nat} {ss : List ByteArray} (x : LocC lo w U g h n ss) (i : Nat) (hi : i < n) (hn : n ≤ 4096) :
    Calls Try.prog 13 #[.pointer (some ⟨U, 0, none⟩), .int .i64 (i : Int), .int .i64 3] w fun e w' => e = .returned (.tuple #[.int .i64 1, .string (ss.getD i ByteArray.empty)]) ∧ ∃ m, w' = w.drewN m := by
  obtain ⟨cu, L, cl, u1, u2, _⟩ := x.u
  obtain ⟨cg, g1, g2⟩ := x.g
  obtain ⟨⟨v0, a0, b0⟩, ⟨v2, a2, b2⟩, ⟨v4, a4, b4⟩, ⟨v1, a1, b1⟩, ⟨v5, a5, b5⟩⟩ := g2 i hi
  generalize ss.getD i ByteArray.empty = c at *
  have e0 : (n : Int) ≤ 4096 := by omega
  have k0 := cell_of u1 u2
  obtain ⟨F, cf, Q, vl, vr, rfl, _, f3, f4, f5, f6, f7, f8, f9⟩ := b5
  obtain ⟨cq, Z, cz, vn, ve, vc, q1, q2, q3, q4, q5, _, q7, q8, q9, q10, q11⟩ := f9.ex
  have k1 := cell_of g1 a5
  have k2 := cell_of f3 f6
  have pe := ptr46e
  obtain ⟨A, S, rfl, s1, s2⟩ := f7.cells
  have k3 := cell_of f3 f4
  clear f3 f4 f5 f6 f7 f8 f9 q1 q2 q3 q4 q5 q7 q8 q9 q10 q11
  clear u1 u2 g1 g2 x hn a0 b0 a2 b2 a4 b4 a1 b1 a5
  go_enter Try.func13, Try.ntmps13
  go_wp2_with fail
  go_quiet (fail)
  go_wp2
  go_ret2
  exact ⟨rfl, _, rfl⟩
set_option maxRecDepth 100000 in
set_option maxHeartbeats 4000000 in
theorem fod13_4 {lo : Nat} {w : World} {U g h n : Nat} {ss : List ByteArray} (x : LocC lo w U g h n ss) (i : Nat) (hi : i < n) (hn : n ≤ 4096) :
    Calls Try.prog 13 #[.pointer (some ⟨U, 0, none⟩), .int .i64 (i : Int), .int .i64 4] w fun e w' => e = .returned (.tuple #[.int .i64 1, .string (ss.getD i ByteArray.empty)]) ∧ ∃ m, w' = w.drewN m := by
  obtain ⟨cu, L, cl, u1, u2, _⟩ := x.u
  obtain ⟨cg, g1, g2⟩ := x.g
  obtain ⟨⟨v0, a0, b0⟩, ⟨v2, a2, b2⟩, ⟨v4, a4, b4⟩, ⟨v1, a1, b1⟩, ⟨v5, a5, b5⟩⟩ := g2 i hi
  generalize ss.getD i ByteArray.empty = c at *
  have e0 : (n : Int) ≤ 4096 := by omega
  have k0 := cell_of u1 u2
  obtain ⟨F, cf, Q, vl, vr, rfl, _, f3, f4, f5, f6, f7, f8, f9⟩ := b5
  obtain ⟨cq, Z, cz, vn, ve, vc, q1, q2, q3, q4, q5, _, q7, q8, q9, q10, q11⟩ := f9.ex
  have k1 := cell_of g1 a5
  have k2 := cell_of f3 f6
  have pe := ptr46e
  obtain ⟨A, S, rfl, s1, s2⟩ := q9.cells
  have k3 := cell_of q1 q2
  clear f3 f4 f5 f6 f7 f8 f9 q1 q2 q3 q4 q5 q7 q8 q9 q10 q11
  clear u1 u2 g1 g2 x hn a0 b0 a2 b2 a4 b4 a1 b1 a5
  go_enter Try.func13, Try.ntmps13
  go_wp2_with fail
  go_quiet (fail)
  go_wp2
  go_ret2
  exact ⟨rfl, _, rfl⟩
set_option maxRecDepth 100000 in
set_option maxHeartbeats 4000000 in
theorem fod13_5 {lo : Nat} {w : World} {U g h n : Nat} {ss : List ByteArray} (x : LocC lo w U g h n ss) (i : Nat) (hi : i < n) (hn : n ≤ 4096) :
    Calls Try.prog 13 #[.pointer (some ⟨U, 0, none⟩), .int .i64 (i : Int), .int .i64 5] w fun e w' => e = .returned (.tuple #[.int .i64 1, .string (ss.getD i ByteArray.empty)]) ∧ ∃ m, w' = w.drewN m := by
  obtain ⟨cu, L, cl, u1, u2, _⟩ := x.u
  obtain ⟨cg, g1, g2⟩ := x.g
  obtain ⟨⟨v0, a0, b0⟩, ⟨v2, a2, b2⟩, ⟨v4, a4, b4⟩, ⟨v1, a1, b1⟩, ⟨v5, a5, b5⟩⟩ := g2 i hi
  generalize ss.getD i ByteArray.empty = c at *
  have e0 : (n : Int) ≤ 4096 := by omega
  have k0 := cell_of u1 u2
  obtain ⟨F, cf, Q, vl, vr, rfl, _, f3, f4, f5, f6, f7, f8, f9⟩ := b5
  obtain ⟨cq, Z, cz, vn, ve, vc, q1, q2, q3, q4, q5, _, q7, q8, q9, q10, q11⟩ := f9.ex
  have k1 := cell_of g1 a5
  have k2 := cell_of f3 f6
  have pe := ptr46e
  obtain ⟨A, S, rfl, s1, s2⟩ := q10.cells
  have k3 := cell_of q1 q4
  clear f3 f4 f5 f6 f7 f8 f9 q1 q2 q3 q4 q5 q7 q8 q9 q10 q11
  clear u1 u2 g1 g2 x hn a0 b0 a2 b2 a4 b4 a1 b1 a5
  go_enter Try.func13, Try.ntmps13
  go_wp2_with fail
  go_quiet (fail)
  go_wp2
  go_ret2
  exact ⟨rfl, _, rfl⟩
set_option maxRecDepth 100000 in
set_option maxHeartbeats 4000000 in
theorem fod13_6 {lo : Nat} {w : World} {U g h n : Nat} {ss : List ByteArray} (x : LocC lo w U g h n ss) (i : Nat) (hi : i < n) (hn : n ≤ 4096) :
    Calls Try.prog 13 #[.pointer (some ⟨U, 0, none⟩), .int .i64 (i : Int), .int .i64 6] w fun e w' => e = .returned (.tuple #[.int .i64 1, .string (ss.getD i ByteArray.empty)]) ∧ ∃ m, w' = w.drewN m := by
  obtain ⟨cu, L, cl, u1, u2, _⟩ := x.u
  obtain ⟨cg, g1, g2⟩ := x.g
  obtain ⟨⟨v0, a0, b0⟩, ⟨v2, a2, b2⟩, ⟨v4, a4, b4⟩, ⟨v1, a1, b1⟩, ⟨v5, a5, b5⟩⟩ := g2 i hi
  generalize ss.getD i ByteArray.empty = c at *
  have e0 : (n : Int) ≤ 4096 := by omega
  have k0 := cell_of u1 u2
  obtain ⟨F, cf, Q, vl, vr, rfl, _, f3, f4, f5, f6, f7, f8, f9⟩ := b5
  obtain ⟨cq, Z, cz, vn, ve, vc, q1, q2, q3, q4, q5, _, q7, q8, q9, q10, q11⟩ := f9.ex
  have k1 := cell_of g1 a5
  have k2 := cell_of f3 f6
  have pe := ptr46e
  obtain ⟨A, S, rfl, s1, s2⟩ := q11.cells
  have k3 := cell_of q1 q3
  clear f3 f4 f5 f6 f7 f8 f9 q1 q2 q3 q4 q5 q7 q8 q9 q10 q11
  clear u1 u2 g1 g2 x hn a0 b0 a2 b2 a4 b4 a1 b1 a5
  go_enter Try.func13, Try.ntmps13
  go_wp2_with fail
  go_quiet (fail)
  go_wp2
  go_ret2
  exact ⟨rfl, _, rfl⟩
set_option maxRecDepth 100000 in
set_option maxHeartbeats 4000000 in
theorem fod13_7 {lo : Nat} {w : World} {U g h n : Nat} {ss : List ByteArray} (x : LocC lo w U g h n ss) (i : Nat) (hi : i < n) (hn : n ≤ 4096) :
    Calls Try.prog 13 #[.pointer (some ⟨U, 0, none⟩), .int .i64 (i : Int), .int .i64 7] w fun e w' => e = .returned (.tuple #[.int .i64 1, .string (ss.getD i ByteArray.empty)]) ∧ ∃ m, w' = w.drewN m := by
  obtain ⟨cu, L, cl, u1, u2, _⟩ := x.u
  obtain ⟨cg, g1, g2⟩ := x.g
  obtain ⟨⟨v0, a0, b0⟩, ⟨v2, a2, b2⟩, ⟨v4, a4, b4⟩, ⟨v1, a1, b1⟩, ⟨v5, a5, b5⟩⟩ := g2 i hi
  generalize ss.getD i ByteArray.empty = c at *
  have e0 : (n : Int) ≤ 4096 := by omega
  have k0 := cell_of u1 u2
  obtain ⟨F, cf, Q, vl, vr, rfl, _, f3, f4, f5, f6, f7, f8, f9⟩ := b5
  obtain ⟨cq, Z, cz, vn, ve, vc, q1, q2, q3, q4, q5, _, q7, q8, q9, q10, q11⟩ := f9.ex
  have k1 := cell_of g1 a5
  have k2 := cell_of f3 f6
  have pe := ptr46e
  obtain ⟨A, S, rfl, s1, s2⟩ := f8.cells
  have k3 := cell_of f3 f5
  clear f3 f4 f5 f6 f7 f8 f9 q1 q2 q3 q4 q5 q7 q8 q9 q10 q11
  clear u1 u2 g1 g2 x hn a0 b0 a2 b2 a4 b4 a1 b1 a5
  go_enter Try.func13, Try.ntmps13
  go_wp2_with fail
  go_quiet (fail)
  go_wp2
  go_ret2
  exact ⟨rfl, _, rfl⟩
set_option maxRecDepth 100000 in
set_option maxHeartbeats 4000000 in
theorem fod13_8 {lo : Nat} {w : World} {U g h n : Nat} {ss : List ByteArray} (x : LocC lo w U g h n ss) (i : Nat) (hi : i < n) (hn : n ≤ 4096) :
    Calls Try.prog 13 #[.pointer (some ⟨U, 0, none⟩), .int .i64 (i : Int), .int .i64 8] w fun e w' => e = .returned (.tuple #[.int .i64 1, .string (ss.getD i ByteArray.empty)]) ∧ ∃ m, w' = w.drewN m := by
  obtain ⟨cu, L, cl, u1, u2, _⟩ := x.u
  obtain ⟨cg, g1, g2⟩ := x.g
  obtain ⟨⟨v0, a0, b0⟩, ⟨v2, a2, b2⟩, ⟨v4, a4, b4⟩, ⟨v1, a1, b1⟩, ⟨v5, a5, b5⟩⟩ := g2 i hi
  generalize ss.getD i ByteArray.empty = c at *
  have e0 : (n : Int) ≤ 4096 := by omega
  have k0 := cell_of u1 u2
  obtain ⟨L1, cl1, vf, rfl, _, l3, l4, l5⟩ := b1
  obtain ⟨A, S, rfl, s1, s2⟩ := l5.cells
  have k1 := cell_of g1 a1
  have k2 := cell_of l3 l4
  have mo := mo_LiteralNumber L1
  clear l3 l4 l5
  clear u1 u2 g1 g2 x hn a0 b0 a2 b2 a4 b4 a1 a5 b5
  go_enter Try.func13, Try.ntmps13
  go_wp2_with (first | (go_at_call 36; refine (open_any _ _ _).mono ?_; rintro e w' ⟨rfl, rfl⟩))
  go_quiet (fail)
  go_wp2
  go_ret2
  exact ⟨rfl, _, rfl⟩
theorem fod13 {lo : Nat} {w : World} {U g h n : Nat} {ss : List ByteArray} (x : LocC lo w U g h n ss) (i wc : Nat) (hi : i < n) (hn : n ≤ 4096) (hw : wc < 9) :
    Calls Try.prog 13 #[.pointer (some ⟨U, 0, none⟩), .int .i64 (i : Int), .int .i64 (wc : Int)] w fun e w' => e = .returned (.tuple #[.int .i64 1, .string (ss.getD i ByteArray.empty)]) ∧ ∃ m, w' = w.drewN m := by
  rcases (by omega : wc = 0 ∨ wc = 1 ∨ wc = 2 ∨ wc = 3 ∨ wc = 4 ∨ wc = 5 ∨ wc = 6 ∨ wc = 7 ∨ wc = 8) with rfl | rfl | rfl | rfl | rfl | rfl | rfl | rfl | rfl
  · exact fod13_0 x i hi hn
  · exact fod13_1 x i hi hn
  · exact fod13_2 x i hi hn
  · exact fod13_3 x i hi hn
  · exact fod13_4 x i hi hn
  · exact fod13_5 x i hi hn
  · exact fod13_6 x i hi hn
  · exact fod13_7 x i hi hn
  · exact fod13_8 x i hi hn
theorem len14 {lo : Nat} {w : World} {U g h n : Nat} {ss : List ByteArray} (x : LocC lo w U g h n ss) : Calls Try.prog 14 #[.pointer (some ⟨U, 0, none⟩)] w fun e w' => e = .returned (.int .i64 (n : Int)) ∧ w = w' := by
  obtain ⟨cu, L, cl, u1, u2, u3, u4, u5⟩ := x.u
  have c1 := cell_of u1 u3
  have c2 := cell_of u4 u5
  have mo := mo_LiteralString L
  clear u1 u2 u3 u4 u5 x
  go_enter Try.func14, Try.ntmps14
  go_wp2_with (first | (go_at_call 36; refine (open_any _ _ _).mono ?_; rintro e w' ⟨rfl, rfl⟩))
  go_ret
  exact ⟨rfl, rfl⟩
set_option maxRecDepth 100000 in
theorem com15 {lo : Nat} {w : World} {U g h n : Nat} {ss : List ByteArray} (x : LocC lo w U g h n ss) (j : Nat) (hj : j < n) (hn : n ≤ 4096) : Calls Try.prog 15 #[.pointer (some ⟨U, 0, none⟩), .int .i64 (j : Int)] w fun e w' => e = .returned (.string (ss.getD j ByteArray.empty)) ∧ w = w' := by
  obtain ⟨cu, L, cl, u1, u2, u3, u4, u5⟩ := x.u
  obtain ⟨ch, h1, h2⟩ := x.h
  obtain ⟨S, s1, _, s3⟩ := h2 j hj
  have e0 : (n : Int) ≤ 4096 := by omega
  have c1 := cell_of u1 u3
  have c2 := cell_of u4 u5
  have c3 := cell_of h1 s1
  have c4 := cell_of (k := 0) s3 rfl
  have mo := mo_LiteralString L
  clear u1 u2 u3 u4 u5 x h1 h2 s1 s3 hn
  go_enter Try.func15, Try.ntmps15
  go_wp2_with (first | (go_at_call 36; refine (open_any _ _ _).mono ?_; rintro e w' ⟨rfl, rfl⟩))
  go_ret
  exact ⟨rfl, rfl⟩
end Go.Proofs.Ytnmceagiofjdnaa
