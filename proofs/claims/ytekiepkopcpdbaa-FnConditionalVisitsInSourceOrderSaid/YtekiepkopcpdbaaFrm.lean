/- What a step leaves of all but one block. -/
import Derived.Test.YtekiepkopcpdbaaRM
namespace Go.Proofs.Ytekiepkopcpdbaa
open Go.RowKit
structure Frm (a b : World) (B : Nat) : Prop where
  os : b.os = a.os
  tape : b.tape = a.tape
  output : b.output = a.output
  size : a.heap.size ≤ b.heap.size
  frame : ∀ k, k < a.heap.size → k ≠ B → b.heap[k]? = a.heap[k]?
theorem Frm.trans {a b c : World} {B : Nat} (h : Frm a b B) (k : Frm b c B) : Frm a c B := ⟨k.os.trans h.os, k.tape.trans h.tape, k.output.trans h.output, Nat.le_trans h.size k.size, fun i hi hn => (k.frame i (Nat.lt_of_lt_of_le hi h.size) hn).trans (h.frame i hi hn)⟩
theorem Own.frm {a b : World} (h : Own a b) (B : Nat) : Frm a b B := ⟨h.os, h.tape, h.output, h.size, fun k hk _ => h.block k hk⟩
theorem RecSt.frm {w0 w : World} {B : Nat} {nd fd : Value} {xs : List Int} (h : RecSt w0 w B nd fd xs) : Frm w0 w B := ⟨h.os, h.tape, h.output, h.size, h.frame⟩
theorem Frm.at {a b : World} {A B : Nat} {x : Obj} (h : Frm a b B) (hx : a.heap[A]? = some x) (hn : A ≠ B) : b.heap[A]? = some x := (h.frame A (lt_of_at hx) hn).trans hx
theorem Frm.below {a b c : World} {B : Nat} (h : Own a b) (f : Frm b c B) (hn : a.heap.size ≤ B) : Own a c :=
  ⟨f.os.trans h.os, f.tape.trans h.tape, f.output.trans h.output, Nat.le_trans h.size f.size, fun k hk => (f.frame k (Nat.lt_of_lt_of_le hk h.size) (by omega)).trans (h.block k hk)⟩
theorem FodIs.frm {w w1 : World} {B : Nat} {v : Value} {k b i : Int} {c : ByteArray} {cB : Array Value} (h : FodIs w v k b i c) (f : Frm w w1 B) (hB : w.heap[B]? = some (.cells cB 51 (0, 0))) : FodIs w1 v k b i c := by
  obtain ⟨A, S, h1, h2, h3⟩ := h
  refine ⟨A, S, h1, f.at h2 (fun e => ?_), f.at h3 (fun e => ?_)⟩
  · subst e
    rw [hB] at h2
    injection h2 with h2
    injection h2 with _ h2
    exact absurd h2 (by decide)
  · subst e
    rw [hB] at h3
    injection h3 with h3
    injection h3 with _ h3
    exact absurd h3 (by decide)
theorem heap_set_alloc (w : World) (o : Obj) (B i : Nat) (v : Value) (k : Nat) (hk : k < w.heap.size) (hn : k ≠ B) : ((w.setCell ⟨B, i, none⟩ v).alloc o).drew.heap[k]? = w.heap[k]? :=
  (Below.heap_alloc (w.setCell ⟨B, i, none⟩ v) o k (by show k < (w.heap.modify _ _).size; rw [Array.size_modify]; exact hk)).trans (Below.heap_setCell w ⟨B, i, none⟩ v k hn)
theorem size_store (w : World) (o : Obj) (B i : Nat) (v : Value) : ((w.setCell ⟨B, i, none⟩ v).alloc o).drew.heap.size = w.heap.size + 1 := by
  show ((w.heap.modify _ _).push o).size = _
  rw [Array.size_push, Array.size_modify]
theorem frm_store (w : World) (o : Obj) (B i : Nat) (v : Value) : Frm w ((w.setCell ⟨B, i, none⟩ v).alloc o).drew B :=
  ⟨rfl, rfl, rfl, by rw [size_store]; omega, fun k hk hn => heap_set_alloc w o B i v k hk hn⟩
theorem at_store_new (w : World) (o : Obj) (B i : Nat) (v : Value) : ((w.setCell ⟨B, i, none⟩ v).alloc o).drew.heap[w.heap.size]? = some o :=
  at_new (W := w.setCell ⟨B, i, none⟩ v) (by show _ = (w.heap.modify _ _).size; rw [Array.size_modify])
theorem at_store {w : World} {o : Obj} {B i : Nat} {v : Value} {c : Array Value} {T : Nat} (h : w.heap[B]? = some (.cells c T (0, 0))) : ((w.setCell ⟨B, i, none⟩ v).alloc o).drew.heap[B]? = some (.cells (c.setIfInBounds i v) T (0, 0)) :=
  at_old (W := w.setCell ⟨B, i, none⟩ v) (by simp [World.setCell, Array.getElem?_modify, h])
theorem IntsAt.own {w w1 : World} {g : Nat} {xs : List Int} (h : IntsAt w g xs) (hg : g < w.heap.size) (o : Own w w1) : IntsAt w1 g xs := fun k hk => o.cell hg (h k hk)
theorem RecSt.start {w : World} {B : Nat} {nd fd : Value} (h : w.heap[B]? = some (.cells #[nd, fd, .slice none 0 0] 51 (0, 0))) : RecSt w w B nd fd [] :=
  ⟨rfl, rfl, rfl, Nat.le_refl _, fun _ _ _ => rfl, lt_of_at h, _, h, World.ownsRow_nil _ _ _ _⟩
end Go.Proofs.Ytekiepkopcpdbaa
