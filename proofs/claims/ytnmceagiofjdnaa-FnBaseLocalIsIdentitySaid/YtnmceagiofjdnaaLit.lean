/- The literals of n008_163's first law: made (16) and viewed (18). -/
import Derived.Test.YtnmceagiofjdnaaMkD
namespace Go.Proofs.Ytnmceagiofjdnaa
open Go.RowKit
theorem results_tmp4 {fn : Func} {t1 t2 t3 t4 : Tmp} (h : fn.results = #[.tmp t1, .tmp t2, .tmp t3, .tmp t4]) (tmps : Array Value) (P : Program) (w : World) :
    (results fn tmps).run P w = .ok (.tuple #[tmps.getD t1 undef, tmps.getD t2 undef, tmps.getD t3 undef, tmps.getD t4 undef]) w := by
  simp [results, h]
theorem results_tmp7 {fn : Func} {t1 t2 t3 t4 t5 t6 t7 : Tmp} (h : fn.results = #[.tmp t1, .tmp t2, .tmp t3, .tmp t4, .tmp t5, .tmp t6, .tmp t7]) (tmps : Array Value) (P : Program) (w : World) :
    (results fn tmps).run P w = .ok (.tuple #[tmps.getD t1 undef, tmps.getD t2 undef, tmps.getD t3 undef, tmps.getD t4 undef, tmps.getD t5 undef, tmps.getD t6 undef, tmps.getD t7 undef]) w := by
  simp [results, h]
/-- A fodder of one element, read. -/
theorem One.read {lo : Nat} {w : World} {v : Value} {c : ByteArray} (h : One lo w v c) : ∃ A S, v = .slice (some ⟨A, 0, none⟩) 1 1 ∧ w.cell? ⟨A, 0, none⟩ = some (.slice (some ⟨S, 0, none⟩) 1 1) ∧ w.cell? ⟨S, 0, none⟩ = some (.string c) := by
  obtain ⟨A, S, h1, _, _, h4, h5⟩ := h
  exact ⟨A, S, h1, cell_of h4 rfl, cell_of h5 rfl⟩
/-- v is a literal of the kind k; its fodder has the one comment c, which is its text, too. -/
def LitK (lo : Nat) (w : World) (v : Value) (k : Nat) (c : ByteArray) : Prop := ∃ L cl vf, lo ≤ L ∧ One lo w vf c ∧
  ((k = 0 ∧ v = .iface 80 (.pointer (some ⟨L, 0, none⟩)) ∧ w.heap[L]? = some (.cells cl 82 (0, 0)) ∧ cl[0]? = some vf) ∨
   (k = 1 ∧ v = .iface 77 (.pointer (some ⟨L, 0, none⟩)) ∧ w.heap[L]? = some (.cells cl 79 (0, 0)) ∧ cl[1]? = some vf ∧ cl[0]? = some (.string c)) ∨
   (k = 2 ∧ v = .iface 83 (.pointer (some ⟨L, 0, none⟩)) ∧ w.heap[L]? = some (.cells cl 86 (0, 0)) ∧ cl[3]? = some vf ∧ cl[0]? = some (.string c)))
theorem LitK.keep {lo k : Nat} {w w' : World} {v : Value} {c : ByteArray} (h : LitK lo w v k c) (q : Keep lo w w') : LitK lo w' v k c := by
  obtain ⟨L, cl, vf, h1, h2, h3⟩ := h
  refine ⟨L, cl, vf, h1, h2.keep q, ?_⟩
  rcases h3 with ⟨a, b, e, d⟩ | ⟨a, b, e, d⟩ | ⟨a, b, e, d⟩
  · exact .inl ⟨a, b, q.at h1 e, d⟩
  · exact .inr (.inl ⟨a, b, q.at h1 e, d⟩)
  · exact .inr (.inr ⟨a, b, q.at h1 e, d⟩)
theorem LitK.vis {lo k : Nat} {w : World} {v : Value} {c : ByteArray} {N o : Nat} (h : LitK lo w v k c) (hl : N < w.heap.size) (hN : w.cell? ⟨N, o, none⟩ = some v) : Vis w ⟨N, o, none⟩ := by
  obtain ⟨L, cl, vf, h1, h2, h3⟩ := h
  rcases h3 with ⟨a, rfl, e, d⟩ | ⟨a, rfl, e, d, _⟩ | ⟨a, rfl, e, d, _⟩
  · exact vis_LiteralNull h2.fodV hN hl e d
  · exact vis_LiteralNumber h2.fodV hN hl e d
  · exact vis_LiteralString h2.fodV hN hl e d
theorem LitK.face {lo k : Nat} {w : World} {v : Value} {c : ByteArray} (h : LitK lo w v k c) : ∃ t x, v = .iface t x := by
  obtain ⟨L, cl, vf, h1, h2, h3⟩ := h
  rcases h3 with ⟨a, rfl, _⟩ | ⟨a, rfl, _⟩ | ⟨a, rfl, _⟩
  · exact ⟨_, _, rfl⟩
  · exact ⟨_, _, rfl⟩
  · exact ⟨_, _, rfl⟩
def LitMade (lo : Nat) (w : World) (k : Nat) (c : ByteArray) (e : Ending) (w' : World) : Prop := ∃ v, e = .returned v ∧ Own w w' ∧ LitK lo w' v k c
set_option maxRecDepth 100000 in
theorem lit_mk (lo k : Nat) (hk : k < 3) (c : ByteArray) (w : World) (hlo : lo ≤ w.heap.size) : Calls Try.prog 16 #[.int .i64 (k : Int), .string c] w (LitMade lo w k c) := by
  have HL := Lib.hid hlo
  clear hlo
  rcases (by omega : k = 0 ∨ k = 1 ∨ k = 2) with rfl | rfl | rfl
  · clear hk
    go_enter Try.func16, Try.ntmps16
    go_wp2_with fail
    refine (one_mk _ _).mono ?_
    rintro e w' ⟨rfl, rfl⟩
    go_wp2_with fail
    go_ret
    have hl := HL.out
    exact ⟨_, rfl, below_al (below_al (below_al (Below.refl _ _) _) _) _, _, _, _, by omega, (one_new c hl).keep ((Keep.refl _ _).al _), .inl ⟨rfl, rfl, at_new (by simp), rfl⟩⟩
  · clear hk
    go_enter Try.func16, Try.ntmps16
    go_wp2_with fail
    refine (one_mk _ _).mono ?_
    rintro e w' ⟨rfl, rfl⟩
    go_wp2_with fail
    go_ret
    have hl := HL.out
    exact ⟨_, rfl, below_al (below_al (below_al (Below.refl _ _) _) _) _, _, _, _, by omega, (one_new c hl).keep ((Keep.refl _ _).al _), .inr (.inl ⟨rfl, rfl, at_new (by simp), rfl, rfl⟩)⟩
  · clear hk
    go_enter Try.func16, Try.ntmps16
    go_wp2_with fail
    refine (one_mk _ _).mono ?_
    rintro e w' ⟨rfl, rfl⟩
    go_wp2_with fail
    go_ret
    have hl := HL.out
    exact ⟨_, rfl, below_al (below_al (below_al (Below.refl _ _) _) _) _, _, _, _, by omega, (one_new c hl).keep ((Keep.refl _ _).al _), .inr (.inr ⟨rfl, rfl, at_new (by simp), rfl, rfl⟩)⟩
/-- A literal's text as the view tells it: none of a null. -/
def txtOf (k : Nat) (c : ByteArray) : ByteArray := if k = 0 then ByteArray.empty else c
theorem ifn80 (a : Addr) (w : World) : (binOp .eql 41 (.iface 80 (.pointer (some a))) .nilIface).run Try.prog w = .ok (.bool false) w := by kernel_rfl
theorem ifn77 (a : Addr) (w : World) : (binOp .eql 41 (.iface 77 (.pointer (some a))) .nilIface).run Try.prog w = .ok (.bool false) w := by kernel_rfl
theorem ifn83 (a : Addr) (w : World) : (binOp .eql 41 (.iface 83 (.pointer (some a))) .nilIface).run Try.prog w = .ok (.bool false) w := by kernel_rfl
set_option maxRecDepth 100000 in
set_option maxHeartbeats 4000000 in
theorem view18 {lo k : Nat} {w : World} {v : Value} {c : ByteArray} (h : LitK lo w v k c) :
    Calls Try.prog 18 #[v] w fun e w' => e = .returned (.tuple #[.int .i64 (k : Int), .string (txtOf k c), .int .i64 1, .string c]) ∧ w = w' := by
  obtain ⟨L, cl, vf, h1, h2, h3⟩ := h
  obtain ⟨A, S, rfl, s1, s2⟩ := h2.read
  rcases h3 with ⟨rfl, rfl, e, d⟩ | ⟨rfl, rfl, e, d, t⟩ | ⟨rfl, rfl, e, d, t⟩
  · have k1 := cell_of e d
    have ta := ta_LiteralNull_80 L
    have mo := mo_LiteralNull L
    have fn := ifn80 ⟨L, 0, none⟩
    clear h1 h2 e d
    go_enter Try.func18, Try.ntmps18
    go_wp2_with (first | (go_at_call 36; refine (open_any _ _ _).mono ?_; rintro e w' ⟨rfl, rfl⟩))
    ((try simp only [Exit.inBlock, Exit.then]); refine bodyPost_ret (results_tmp4 rfl _ _ _) rfl ?_)
    exact ⟨rfl, rfl⟩
  · have k1 := cell_of e d
    have k2 := cell_of e t
    have ta0 := ta_LiteralNumber_80 L
    have ta := ta_LiteralNumber_77 L
    have mo := mo_LiteralNumber L
    have fn := ifn77 ⟨L, 0, none⟩
    clear h1 h2 e d t
    go_enter Try.func18, Try.ntmps18
    go_wp2_with (first | (go_at_call 36; refine (open_any _ _ _).mono ?_; rintro e w' ⟨rfl, rfl⟩))
    ((try simp only [Exit.inBlock, Exit.then]); refine bodyPost_ret (results_tmp4 rfl _ _ _) rfl ?_)
    exact ⟨rfl, rfl⟩
  · have k1 := cell_of e d
    have k2 := cell_of e t
    have ta0 := ta_LiteralString_80 L
    have ta1 := ta_LiteralString_77 L
    have ta := ta_LiteralString_83 L
    have mo := mo_LiteralString L
    have fn := ifn83 ⟨L, 0, none⟩
    clear h1 h2 e d t
    go_enter Try.func18, Try.ntmps18
    go_wp2_with (first | (go_at_call 36; refine (open_any _ _ _).mono ?_; rintro e w' ⟨rfl, rfl⟩))
    ((try simp only [Exit.inBlock, Exit.then]); refine bodyPost_ret (results_tmp4 rfl _ _ _) rfl ?_)
    exact ⟨rfl, rfl⟩
end Go.Proofs.Ytnmceagiofjdnaa
