/- What the two recording passes hold at a law's end. -/
import Derived.Test.YtnnpbjojailaeaaEv
import Derived.Test.YtnnpbjojailaeaaSame
namespace Go.Proofs.Ytnnpbjojailaeaa
open Go.RowKit
/-- What a recording pass holds: its list's address and the events there. -/
def Held (w : World) (B : Nat) (es : List Ev) : Prop := ∃ g cap, es.length ≤ cap ∧ w.heap[B]? = some (.cells #[.slice (some ⟨g, 0, none⟩) es.length cap] 29 (0, 0)) ∧ (∀ j, j < es.length * 3 → w.cell? ⟨g, j, none⟩ = (evc es)[j]?)
theorem RecE.held {w0 w : World} {B : Nat} {es : List Ev} (h : RecE w0 w B es) (hn : 0 < es.length) : Held w B es := by
  obtain ⟨v, hv, ho⟩ := RecSt.evs h
  rcases ho.2 with ⟨_, h0⟩ | ⟨g, cap, cur, rfl, _, _, hc, _⟩
  · omega
  · exact ⟨g, cap, hc, hv, fun j hj => ho.cellAt j hj⟩
/-- .. is kept while another pass records. -/
theorem RecE.held_other {w0 w w' : World} {B : Nat} {es : List Ev} (h : RecE w0 w B es) (hn : 0 < es.length) {W : World} {B2 : Nat} {fs : List Ev} (h2 : RecE W w' B2 fs) (hb : ∀ k, k < w.heap.size → W.heap[k]? = w.heap[k]?) (hs : w.heap.size ≤ B2) (hs2 : w.heap.size ≤ W.heap.size) : Held w' B es := by
  have hB : B < w.heap.size := Nat.lt_of_lt_of_le (RecSt.lt h) (RecSt.size h)
  have hk : ∀ k, k < w.heap.size → w'.heap[k]? = w.heap[k]? := fun k hk => (RecSt.frame h2 k (by omega) (by omega)).trans (hb k hk)
  obtain ⟨v, hv, ho⟩ := RecSt.evs h
  rcases ho.2 with ⟨_, h0⟩ | ⟨g, cap, cur, rfl, _, hg, hc, _⟩
  · omega
  · have hgl : g < w.heap.size := (Array.getElem?_eq_some_iff.1 hg).1
    exact ⟨g, cap, hc, (hk B hB).trans hv, fun j hj => (World.cell?_of_block (a := ⟨g, j, none⟩) (hk g hgl)).trans (ho.cellAt j hj)⟩
/-- The law's end: pass 1 saw es, pass 2 the open fodder and es. -/
def Tail (w : World) (B1 B2 n : Nat) : Prop := ∃ g1 c1 g2 c2 f E, n ≤ c1 ∧ n + 1 ≤ c2 ∧ w.cell? ⟨B1, 0, none⟩ = some (.slice (some ⟨g1, 0, none⟩) n c1) ∧ w.cell? ⟨B2, 0, none⟩ = some (.slice (some ⟨g2, 0, none⟩) (n + 1) c2) ∧
  w.cell? ⟨g2, 0, none⟩ = some (.bool false) ∧ w.cell? ⟨g2, 2, none⟩ = some (.pointer (some f)) ∧ EvAt w g1 0 n E ∧ EvAt w g2 3 n E
theorem tail_of {w : World} {B1 B2 : Nat} {es : List Ev} {f : Addr} (h1 : Held w B1 es) (h2 : Held w B2 ((false, none, some f) :: es)) : Tail w B1 B2 es.length := by
  obtain ⟨g1, c1, a1, a2, a3⟩ := h1
  obtain ⟨g2, c2, b1, b2, b3⟩ := h2
  simp only [List.length_cons] at b1 b2 b3
  have z := evc_get ((false, none, some f) :: es) 0 (by simp)
  simp only [List.getElem_cons_zero, Nat.zero_mul, Nat.zero_add] at z
  refine ⟨g1, c1, g2, c2, f, fun k => es.getD k (false, none, none), a1, b1, by simp [World.cell?, a2], by simp [World.cell?, b2], (b3 0 (by omega)).trans z.1, (b3 2 (by omega)).trans z.2.2, fun k hk => ?_, fun k hk => ?_⟩
  · have e := evc_get es k hk
    simp only [Nat.zero_add, List.getD_eq_getElem?_getD, List.getElem?_eq_getElem hk, Option.getD_some]
    exact ⟨(a3 _ (by omega)).trans e.1, (a3 _ (by omega)).trans e.2.1, (a3 _ (by omega)).trans e.2.2⟩
  · have e := evc_get ((false, none, some f) :: es) (k + 1) (by simpa using hk)
    simp only [List.getElem_cons_succ] at e
    have e1 : (k + 1) * 3 = 3 + k * 3 := by omega
    rw [e1] at e
    simp only [List.getD_eq_getElem?_getD, List.getElem?_eq_getElem hk, Option.getD_some]
    exact ⟨(b3 _ (by omega)).trans e.1, (b3 _ (by omega)).trans e.2.1, (b3 _ (by omega)).trans e.2.2⟩
theorem recE_of {w : World} {B : Nat} (h : w.heap[B]? = some (.cells #[.slice none 0 0] 29 (0, 0))) : RecE w w B [] :=
  ⟨rfl, rfl, rfl, Nat.le_refl _, fun _ _ _ => rfl, (Array.getElem?_eq_some_iff.1 h).1, _, h, World.ownsRow_nil _ _ _ _⟩
theorem RecE.below {w w0 w1 : World} {B : Nat} {es : List Ev} (h : RecE w0 w1 B es) (hb : Below w.heap.size w w0) (hB : w.heap.size ≤ B) : Below w.heap.size w w1 :=
  ⟨(RecSt.os h).trans hb.os, (RecSt.tape h).trans hb.tape, (RecSt.output h).trans hb.output, Nat.le_trans hb.size (RecSt.size h), fun k hk => (RecSt.frame h k (Nat.lt_of_lt_of_le hk hb.size) (by omega)).trans (hb.block k hk)⟩
theorem leaf_any (w : World) : Calls Try.prog 13 #[] w fun e w' => ∃ o, e = .returned (.iface 64 (.pointer (some ⟨w.heap.size, 0, none⟩))) ∧ w' = w.alloc o := by
  go_enter Try.func13, Try.ntmps13
  go_wp2
  go_ret
  exact ⟨_, rfl, rfl⟩
/-- The step over the embedded field of no size. -/
theorem part_of {W : World} {B : Nat} {c : Array Value} (h : W.heap[B]? = some (.cells c 29 (0, 0))) : (partAt ⟨B, 0, none⟩ 0 0).run Try.prog W = .ok ⟨B, 0, none⟩ W := run_partAt0 _ _ c h
theorem part_new (w : World) (c : Array Value) : (partAt ⟨w.heap.size, 0, none⟩ 0 0).run Try.prog (w.alloc (.cells c 29)) = .ok ⟨w.heap.size, 0, none⟩ (w.alloc (.cells c 29)) := run_partAt0 _ _ c (heap_alloc_new w _)
theorem part_new1 (w : World) (o : Obj) (c : Array Value) : (partAt ⟨w.heap.size + 1, 0, none⟩ 0 0).run Try.prog ((w.alloc o).alloc (.cells c 29)) = .ok ⟨w.heap.size + 1, 0, none⟩ ((w.alloc o).alloc (.cells c 29)) := by
  have := part_new (w.alloc o) c
  simpa using this
theorem part_new2 (w : World) (o : Obj) (c : Array Value) : (partAt ⟨w.heap.size, 0, none⟩ 0 0).run Try.prog ((w.alloc (.cells c 29)).alloc o) = .ok ⟨w.heap.size, 0, none⟩ ((w.alloc (.cells c 29)).alloc o) := run_partAt0 _ _ c ((Below.heap_alloc _ _ _ (by simp)).trans (heap_alloc_new w _))
theorem part_new3 (w : World) (o o' : Obj) (c : Array Value) : (partAt ⟨w.heap.size + 1 + 1, 0, none⟩ 0 0).run Try.prog (((w.alloc o).alloc o').alloc (.cells c 29)) = .ok ⟨w.heap.size + 1 + 1, 0, none⟩ (((w.alloc o).alloc o').alloc (.cells c 29)) := by
  have := part_new ((w.alloc o).alloc o') c
  simpa using this
theorem at_new {W : World} {o : Obj} {k : Nat} (h : k = W.heap.size) : (W.alloc o).heap[k]? = some o := by subst h; exact heap_alloc_new W o
theorem at_old {W : World} {o x : Obj} {k : Nat} (h : W.heap[k]? = some x) : (W.alloc o).heap[k]? = some x := (Below.heap_alloc W o k (Array.getElem?_eq_some_iff.1 h).1).trans h
theorem below_al {a w : World} (h : Below a.heap.size a w) (o : Obj) : Below a.heap.size a (w.alloc o) := h.alloc h.size o
theorem quiet_add {P : Program} {f : FuncId} {args : Array Value} {w : World} {a n : Nat} {v : Value}
    (h : Calls P f args (w.drewN (a + n)) fun e w' => e = .returned v ∧ ∃ m, w' = (w.drewN (a + n)).drewN m) :
    Calls P f args (w.drewN (a + n)) fun e w'' => e = .returned v ∧ ∃ m, w'' = w.drewN (a + m) :=
  h.mono fun _ _ ⟨he, m, hm⟩ => ⟨he, n + m, by rw [hm, World.drewN_drewN, Nat.add_assoc]⟩
theorem below_drewN {B : Nat} {a w : World} (h : Below B a w) (n : Nat) : Below B a (w.drewN n) := ⟨h.os, h.tape, h.output, h.size, h.block⟩
theorem EvAt.drewN {w : World} {g o n : Nat} {E : Nat → Bool × Option Addr × Option Addr} (h : EvAt w g o n E) (m : Nat) : EvAt (w.drewN m) g o n E := h
end Go.Proofs.Ytnnpbjojailaeaa
