/- The makers and the checkers of fodder and literals. -/
import Derived.Test.YtekiepkopcpdbaaBBase
import Derived.Test.YtekiepkopcpdbaaVLiteralNumber
import Derived.LaidEqlPtr
import Derived.Lib.Builder
import Derived.IntWalk
namespace Go.Proofs.Ytekiepkopcpdbaa
open Go.RowKit
/-- The cells of a fodder's one element. -/
abbrev elemC (S : Nat) (k b i : Int) : Array Value := #[.slice (some ⟨S, 0, none⟩) 1 1, .int .i64 k, .int .i64 b, .int .i64 i]
/-- v is a fodder of one element with these fields. -/
def FodIs (w : World) (v : Value) (k b i : Int) (c : ByteArray) : Prop := ∃ A S, v = .slice (some ⟨A, 0, none⟩) 1 1 ∧ w.heap[A]? = some (.cells (elemC S k b i) 82 (0, 0)) ∧ w.heap[S]? = some (.cells #[.string c] 9 (0, 0))
/-- The literal at L reads c, with such a fodder. -/
def LitIs (w : World) (L : Nat) (c : ByteArray) (k b i : Int) : Prop := ∃ v cl, w.heap[L]? = some (.cells cl 60 (0, 0)) ∧ cl[0]? = some (.string c) ∧ cl[1]? = some v ∧ FodIs w v k b i c
theorem FodIs.keep {w w1 : World} {v : Value} {k b i : Int} {c : ByteArray} (h : FodIs w v k b i c) (o : Own w w1) : FodIs w1 v k b i c := by
  obtain ⟨A, S, h1, h2, h3⟩ := h
  exact ⟨A, S, h1, o.at h2, o.at h3⟩
theorem LitIs.keep {w w1 : World} {L : Nat} {k b i : Int} {c : ByteArray} (h : LitIs w L c k b i) (o : Own w w1) : LitIs w1 L c k b i := by
  obtain ⟨v, cl, h1, h2, h3, h4⟩ := h
  exact ⟨v, cl, o.at h1, h2, h3, h4.keep o⟩
theorem FodIs.fodV {w : World} {v : Value} {k b i : Int} {c : ByteArray} (h : FodIs w v k b i c) : FodV v := by
  obtain ⟨A, S, h1, h2, h3⟩ := h
  exact .inr ⟨A, 0, 1, 1, h1, by omega⟩
theorem Own.al {a w : World} (h : Own a w) (o : Obj) : Own a (w.alloc o) := below_al h o
theorem fod_mk (k b i : Int) (c : ByteArray) (w : World) : Calls Try.prog 12 #[.int .i64 k, .int .i64 b, .int .i64 i, .string c] w fun e w' => e = .returned (.slice (some ⟨w.heap.size + 1 + 1, 0, none⟩) 1 1) ∧
    w' = ((w.alloc (.cells #[.string c] 9)).alloc (.cells (elemC w.heap.size k b i) 82)).alloc (.cells (elemC w.heap.size k b i) 82) := by
  go_enter Try.func12, Try.ntmps12
  go_wp2
  go_ret
  exact ⟨rfl, rfl⟩
theorem lit_mk (k b i : Int) (c : ByteArray) (w : World) : Calls Try.prog 11 #[.string c, .int .i64 k, .int .i64 b, .int .i64 i] w fun e w' => e = .returned (.pointer (some ⟨w.heap.size, 0, none⟩)) ∧ Own w w' ∧ LitIs w' w.heap.size c k b i := by
  go_enter Try.func11, Try.ntmps11
  go_wp2_with (first | (go_at_call 12; refine (fod_mk _ _ _ _ _).mono ?_; rintro e w' ⟨rfl, rfl⟩))
  go_ret
  refine ⟨rfl, ?_, .slice (some ⟨w.heap.size + 1 + 1 + 1, 0, none⟩) 1 1, _, at_old (at_old (at_old (at_new rfl))), rfl, rfl, w.heap.size + 1 + 1 + 1, w.heap.size + 1, rfl, ?_, ?_⟩
  all_goals repeat (first | exact Own.refl _ | refine Own.al ?_ _ | exact at_new (by simp) | refine at_old ?_)
theorem fodOK (k b i : Int) (c : ByteArray) (v : Value) (w : World) (h : FodIs w v k b i c) : Calls Try.prog 15 #[v, .int .i64 k, .int .i64 b, .int .i64 i, .string c] w fun e w' => e = .returned (.bool true) ∧ Own w w' := by
  obtain ⟨A, S, rfl, h1, h2⟩ := h
  have c0 : w.cell? ⟨A, 0, none⟩ = some (.slice (some ⟨S, 0, none⟩) 1 1) := cell_of h1 rfl
  have c1 : w.cell? ⟨A, 1, none⟩ = some (.int .i64 k) := cell_of h1 rfl
  have c2 : w.cell? ⟨A, 2, none⟩ = some (.int .i64 b) := cell_of h1 rfl
  have c3 : w.cell? ⟨A, 3, none⟩ = some (.int .i64 i) := cell_of h1 rfl
  have c4 : w.cell? ⟨S, 0, none⟩ = some (.string c) := cell_of h2 rfl
  have l1 := lt_of_at h1
  have l2 := lt_of_at h2
  clear h1 h2
  go_enter Try.func15, Try.ntmps15
  go_wp2
  go_ret
  exact ⟨rfl, (Own.refl _).al _⟩
theorem litOK (k b i : Int) (c : ByteArray) (L : Nat) (w : World) (h : LitIs w L c k b i) : Calls Try.prog 23 #[.pointer (some ⟨L, 0, none⟩), .string c, .int .i64 k, .int .i64 b, .int .i64 i] w fun e w' => e = .returned (.bool true) ∧ Own w w' := by
  obtain ⟨v, cl, h1, h2, h3, h4⟩ := h
  have c0 := cell_of h1 h2
  have c1 := cell_of h1 h3
  have HF := Lib.hid h4
  obtain ⟨A, S, rfl, -, -⟩ := h4
  clear h1 h2 h3
  go_enter Try.func23, Try.ntmps23
  go_wp2_with (first | (go_at_call 15; refine (fodOK _ _ _ _ _ _ HF.out).mono ?_; rintro e w' ⟨rfl, hs⟩; have HS := Lib.hid hs; clear hs))
  go_ret
  exact ⟨rfl, HS.out⟩
theorem LitIs.vis {w : World} {L N o : Nat} {k b i : Int} {c : ByteArray} (h : LitIs w L c k b i) (hc : w.cell? ⟨N, o, none⟩ = some (.iface 23 (.pointer (some ⟨L, 0, none⟩)))) (hl : N < w.heap.size) : Vis w ⟨N, o, none⟩ := by
  obtain ⟨v, cl, h1, h2, h3, h4⟩ := h
  exact vis_LiteralNumber h4.fodV hc hl h1 h3
theorem at_cell {a b : World} {A T k : Nat} {c : Array Value} {v : Value} {fr : Nat × Nat} (o : Own a b) (h : a.heap[A]? = some (.cells c T fr)) (hv : c[k]? = some v) : b.cell? ⟨A, k, none⟩ = some v := cell_of (o.at h) hv
theorem ptr53_neq (a : Addr) (w : World) : (binOp .neq 53 (.pointer (some a)) (.pointer (some a))).run Try.prog w = .ok (.bool false) w := by
  have h : (Try.prog.info? 29).isSome = true := by kernel_rfl
  obtain ⟨j, hj⟩ := Option.isSome_iff_exists.1 h
  exact Lib.run_neq_ptr_same w a Try.underlying53 hj
theorem ptr53_eql (a : Addr) (w : World) : (binOp .eql 53 (.pointer (some a)) (.pointer (some a))).run Try.prog w = .ok (.bool true) w := by
  have h : (Try.prog.info? 29).isSome = true := by kernel_rfl
  obtain ⟨j, hj⟩ := Option.isSome_iff_exists.1 h
  exact run_eql_ptr_same w a Try.underlying53 hj
theorem open_q (S o : Nat) (w : World) (n : Nat) : Calls Try.prog 42 #[.pointer (some ⟨S, o, none⟩)] (w.drewN n) fun e w'' => e = .returned (.pointer (some ⟨S, o, none⟩)) ∧ ∃ m, w'' = w.drewN m :=
  Calls.quiet_of_same ((open_any S o (w.drewN n)).mono fun _ _ h => ⟨h.1, h.2.symm⟩)
end Go.Proofs.Ytekiepkopcpdbaa
